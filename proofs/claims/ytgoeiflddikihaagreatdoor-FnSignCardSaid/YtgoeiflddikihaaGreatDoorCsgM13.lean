/- Merged by program out of: VFmt, Sort, VStr, Sort2, VOk, VAs, Sort4. -/
import Derived.Test.YtgoeiflddikihaaGreatDoorCsgM12
import Derived.Lib.ItoaMem
import Derived.WalkKit
import Derived.Sort.AssemblyPlain
import Derived.Sort.Row
import Derived.LoopTactic
import Derived.Lib.BufferOwn
import Derived.Maps.AppendAt
import Derived.WalkLawsBesides
import Derived.RegionTactic
import Derived.Deep.RegionLaw
import Derived.BigQuiet
import Derived.Lib.QuietBelow
import Derived.Test.YtgoeiflddikihaaGreatDoorCsgM2
import Derived.Lib.ParseIntBCases
import Derived.Sort.WalkB2
import Derived.Sort.WalkB3
import Derived.Sort.WalkB12
import Derived.Deep.LoopGhost
import Derived.Sort.Walk11
import Derived.Sort.LotD4
import Derived.Sort.LotD1
import Derived.Sort.WalkA6
import Derived.Sort.Walk7
import Derived.Sort.Walk7a
import Derived.Shelf.GgSortFunc.LotD
import Derived.BigRegion
section
namespace Go.Proofs.YtgoeiflddikihaaGreatDoor.Ver
open Go.RowKit Go.Sort Go.Proofs.YtgoeiflddikihaaGreatDoor.Dig Go.Proofs.YtgoeiflddikihaaGreatDoorW.PrintWords
theorem zero_row (w : World) (T : TypeId) (nd : Nat) (hs : nd ≤ 24) : Holds (fun (b : UInt8) => Value.int .u8 (b.toNat : Int)) (w.alloc (.cells Lib.zeros24 T)) w.heap.size 0 (Array.replicate nd (0 : UInt8)) := fun j hj => by
  have hj' : j < nd := by simpa using hj
  refine ⟨?_, World.frozen?_alloc_new _ _ _ _⟩
  rw [World.cell?_alloc_new, Lib.zeros24_at _ (by omega), getElem!_pos _ j hj]
  simp
theorem row_below (w : World) (o : Obj) (dk : Array UInt8) (k : Nat) : Below w.heap.size w ((putRow (fun (b : UInt8) => Value.int .u8 (b.toNat : Int)) (w.alloc o) w.heap.size 0 dk).drewN k) := by
  rw [alloc_eq_grow]
  obtain ⟨os', _, e⟩ := putRow_grow_new (fun (b : UInt8) => Value.int .u8 (b.toNat : Int)) w #[o] w.heap.size 0 dk (Nat.le_refl _)
  rw [e]
  exact ⟨rfl, by simp [World.drewN, Sort.grow], rfl, by simp [World.drewN, Sort.grow], fun j hj => by simp [World.drewN, Sort.grow, Array.getElem?_append]; intro h; exact absurd h (by omega)⟩
set_option maxRecDepth 20000 in
theorem fmtU_inner (u : Nat) (hu : u < 18446744073709551616) (w : World) (hv : Vars w) : Calls Tryz.prog 236 #[.int .u64 u, .int .i64 10] w fun e w' => e = .returned (.string ⟨(Lib.decDigits u).toArray⟩) ∧ Below w.heap.size w w' := by
  by_cases hs : u < 100
  · go_enter Tryz.func236, Tryz.ntmps236
    go_wp2_with (go_at_call 168; (refine (Tryz.internal_strconv_small u hs _).mono ?_; rintro e w' ⟨rfl, rfl⟩))
    go_ret
    exact ⟨rfl, Below.refl _ _⟩
  · have hu1 : 1 ≤ u := by omega
    have hnd20 : Lib.nDigits u ≤ 20 := by have := Lib.numDigits_eq u hu1 hu; split at this <;> omega
    have hsl1 : ∀ W, (Instr.sliceAt 277 (.pointer (some ⟨w.heap.size, 0, none⟩)) none (some (.int .i64 (Lib.nDigits u : Int))) none).run Tryz.prog W = .ok (.slice (some ⟨w.heap.size, 0, none⟩) (Lib.nDigits u) 24) W := fun W => by
      rw [run_sliceAt_array_h W 277 ⟨w.heap.size, 0, none⟩ (by kernel_rfl) .i64 (Lib.nDigits u : Int) (by omega) (by rw [show Tryz.prog.arrayLen 277 = 24 by kernel_rfl]; omega)]
      rw [show Tryz.prog.arrayLen 277 = 24 by kernel_rfl, show Tryz.prog.elem 277 = 5 by kernel_rfl, show (sizeOf 5).run Tryz.prog W = .ok 1 W by kernel_rfl]
      simp [Result.andThen, slicedAt, Lib.add_plain]
    have hH0 := zero_row w 277 (Lib.nDigits u) (by omega)
    have hfmt := Tryz.internal_strconv_formatBase10 w.heap.size 0 24 u (Array.replicate (Lib.nDigits u) 0) (w.alloc (.cells Lib.zeros24 277)) hH0 (by rw [Array.size_replicate]; exact Lib.lt_pow_nDigits u) hu (by rw [Array.size_replicate]; omega)
    rw [Array.size_replicate] at hfmt
    have HH0 := Lib.hid hH0
    have HT := Lib.hid (Tryz.internal_strconv_numDigits u hu1 hu _ (Lib.tabIs_alloc hv.tab (.cells Lib.zeros24 277)))
    have HF := Lib.hid hfmt
    clear hH0 hv hfmt
    go_enter Tryz.func236, Tryz.ntmps236
    go_wp2_with (first
      | (go_at_call 169; (refine HT.out.mono ?_; rintro e w' ⟨rfl, rfl⟩))
      | (go_at_call 170; (refine HF.out.mono ?_; rintro e w' ⟨rfl, k, v', dk, rfl, hF⟩; refine Hid.out ?_)))
    have hcv : (convert 80 9 (.slice (some ⟨w.heap.size, 0, none⟩) (Lib.nDigits u) 24)).run Tryz.prog ((putRow (fun (b : UInt8) => Value.int .u8 (b.toNat : Int)) (w.alloc (.cells Lib.zeros24 277)) w.heap.size 0 dk).drewN k) = .ok (.string ⟨(Lib.decDigits u).toArray⟩) ((putRow (fun (b : UInt8) => Value.int .u8 (b.toNat : Int)) (w.alloc (.cells Lib.zeros24 277)) w.heap.size 0 dk).drewN k) := by
      have h := run_convert_bytes_back (P := Tryz.prog) ((putRow (fun (b : UInt8) => Value.int .u8 (b.toNat : Int)) (w.alloc (.cells Lib.zeros24 277)) w.heap.size 0 dk).drewN k) 80 9 5 ⟨w.heap.size, 0, none⟩ 24 (Lib.decDigits u) Tryz.underlying80 Tryz.underlying5 Tryz.underlying9 (fun j hj => by
        rw [Lib.row_is_numeral hF j hj, Lib.add_plain, World.cell?_drewN]
        exact cell?_putRow (fun (b : UInt8) => Value.int .u8 (b.toNat : Int)) _ w.heap.size 0 _ dk HH0.out (by rw [hF.size, Array.size_replicate]) j (by rw [hF.size]; rw [Lib.decDigits_length] at hj; exact hj))
      rw [Lib.decDigits_length] at h
      exact h
    clear hF
    refine Lib.hid ?_
    go_wp2_with fail
    go_ret
    exact ⟨rfl, row_below w _ dk k⟩
theorem fmtU_any (u : Nat) (hu : u < 18446744073709551616) (w : World) (hv : Vars w) : Calls Tryz.prog 235 #[.int .u64 u, .int .i64 10] w fun e w' => e = .returned (.string ⟨(Lib.decDigits u).toArray⟩) ∧ Below w.heap.size w w' := by
  have H := Lib.hid (fmtU_inner u hu w hv)
  clear hv
  go_enter Tryz.func235, Tryz.ntmps235
  go_wp2_with (go_at_call 236; (refine H.out.mono ?_; rintro e w' ⟨rfl, hb⟩))
  go_ret
  exact ⟨rfl, hb⟩
end Go.Proofs.YtgoeiflddikihaaGreatDoor.Ver
end
section
namespace Go.Proofs.YtgoeiflddikihaaGreatDoor.Srt
open Go.RowKit Go.Proofs.YtgoeiflddikihaaGreatDoorW.PrintWords Go.Sort
section plain
variable {α : Type} [Inhabited α] (lt : α → α → Bool)
theorem inner_go (a j : Nat) (d : Array α) (hj : a < j) (hl : lt d[j]! d[j - 1]! = true) : insInner lt a j d = insInner lt a (j - 1) (swp d j (j - 1)) := by
  cases j with
  | zero => omega
  | succ j =>
    have h2 : lt d[j + 1]! d[j]! = true := hl
    simp only [insInner]
    rw [if_pos (by rw [h2, Bool.and_true]; exact decide_eq_true hj)]
    rfl
theorem inner_stop (a j : Nat) (d : Array α) (h : j ≤ a ∨ lt d[j]! d[j - 1]! = false) : insInner lt a j d = d := by
  cases j with
  | zero => rfl
  | succ j =>
    simp only [insInner]
    rw [if_neg]
    rcases h with h | h
    · rw [decide_eq_false (by omega)]; simp
    · have h2 : lt d[j + 1]! d[j]! = false := h
      rw [h2, Bool.and_false]; simp
theorem outer_go (a b i : Nat) (d : Array α) (h : i < b) : insOuter lt a b i d = insOuter lt a b (i + 1) (insInner lt a i d) := by rw [insOuter, if_pos h]
theorem outer_stop (a b i : Nat) (d : Array α) (h : ¬ i < b) : insOuter lt a b i d = d := by rw [insOuter, if_neg h]
theorem swp_size (d : Array α) (i j : Nat) : (swp d i j).size = d.size := by simp [swp]
end plain
variable {α : Type} [Inhabited α]
structure SI (enc : α → Value) (w : World) (blk off : Nat) (d : Array α) (W : World) : Prop where
  gr : w.grownBy W (some blk)
  holds : Holds enc W blk off d
  lt : blk < w.heap.size
theorem SI.below {enc : α → Value} {w : World} {blk off : Nat} {d : Array α} {W W' : World} (h : SI enc w blk off d W) (hb : Below W.heap.size W W') : SI enc w blk off d W' := by
  have hl : blk < W.heap.size := Nat.lt_of_lt_of_le h.lt h.gr.size
  refine ⟨h.gr.trans (grown_of_below hb _), fun j hj => ?_, h.lt⟩
  obtain ⟨h1, h2⟩ := h.holds j hj
  exact ⟨(hb.cell (p := ⟨blk, off + j, none⟩) hl).trans h1, (hb.frozen (p := ⟨blk, off + j, none⟩) hl).trans h2⟩
theorem SI.drewN {enc : α → Value} {w : World} {blk off : Nat} {d : Array α} {W : World} (h : SI enc w blk off d W) (n : Nat) : SI enc w blk off d (W.drewN n) := h.below (pw_below_drewN (Below.refl _ _) n)
theorem set_holds {enc : α → Value} {W : World} {blk off : Nat} {d : Array α} (h : Holds enc W blk off d) {i : Nat} (hi : i < d.size) (x : α) : Holds enc (W.setCell ⟨blk, off + i, none⟩ (enc x)) blk off (d.setIfInBounds i x) := by
  intro j hj
  have hj' : j < d.size := by simpa using hj
  obtain ⟨h1, h2⟩ := h j hj'
  refine ⟨?_, by rw [World.frozen?_setCell]; exact h2⟩
  by_cases e : i = j
  · subst e
    rw [getElem!_set_same d i x hi]
    exact World.cell?_setCell_same _ _ _ h1
  · rw [getElem!_set_other d i j x (fun e' => e e'.symm), World.cell?_setCell_other _ _ _ _ (by intro e'; injection e' with _ e'; omega)]
    exact h1
theorem SI.swap {enc : α → Value} {w : World} {blk off : Nat} {d : Array α} {W : World} (h : SI enc w blk off d W) {i j : Nat} (hi : i < d.size) (hj : j < d.size) :
    SI enc w blk off (swp d i j) ((W.setCell ⟨blk, off + i, none⟩ (enc d[j]!)).setCell ⟨blk, off + j, none⟩ (enc d[i]!)) :=
  ⟨(h.gr.trans (Lib.grownBy_setCell _ _ _ _)).trans (Lib.grownBy_setCell _ _ _ _), set_holds (set_holds h.holds hi d[j]!) (by simpa using hj) d[i]!, h.lt⟩
def LessC (gl : Nat) (rv : Value) (enc : α → Value) (lt : α → α → Bool) (w : World) (blk off n : Nat) : Prop :=
  ∀ (W : World) (d : Array α), SI enc w blk off d W → d.size = n → ∀ i j : Nat, i < n → j < n →
    Calls Tryz.prog gl #[rv, .int .i64 i, .int .i64 j] W fun e w' => e = .returned (.bool (lt d[i]! d[j]!)) ∧ Below W.heap.size W w'
def SwapC (gs : Nat) (rv : Value) (enc : α → Value) (w : World) (blk off n : Nat) : Prop :=
  ∀ (W : World) (d : Array α), SI enc w blk off d W → d.size = n → ∀ i j : Nat, i < n → j < n →
    Calls Tryz.prog gs #[rv, .int .i64 i, .int .i64 j] W fun e w' => e = .returned (.tuple #[]) ∧ SI enc w blk off (swp d i j) w'
structure Meth (T : TypeId) (rv : Value) (gn gl gs : Nat) : Prop where
  n : ∀ w, Sem.run Tryz.prog (method 417 T rv "Len") w = .ok (gn, rv) w
  l : ∀ w, Sem.run Tryz.prog (method 417 T rv "Less") w = .ok (gl, rv) w
  s : ∀ w, Sem.run Tryz.prog (method 417 T rv "Swap") w = .ok (gs, rv) w
  en : ∀ args w, (callFunc gn args).run Tryz.prog w = .ok (.enter gn args) w
  el : ∀ args w, (callFunc gl args).run Tryz.prog w = .ok (.enter gl args) w
  es : ∀ args w, (callFunc gs args).run Tryz.prog w = .ok (.enter gs args) w
set_option maxHeartbeats 2000000 in
set_option maxRecDepth 100000 in
theorem ins_any {T : TypeId} {rv : Value} {gn gl gs : Nat} (hm : Meth T rv gn gl gs) (enc : α → Value) (lt : α → α → Bool) (w : World) (blk off n : Nat) (hl : LessC gl rv enc lt w blk off n) (hs : SwapC gs rv enc w blk off n) (hn : n < 4611686018427387904)
    (a b : Nat) (hab : a ≤ b) (hb : b ≤ n) (W : World) (d : Array α) (hd : d.size = n) (hW : SI enc w blk off d W) :
    Calls Tryz.prog 132 #[.iface T rv, .int .i64 a, .int .i64 b] W fun e w' => e = .returned (.tuple #[]) ∧ SI enc w blk off (insertionSort lt d a b) w' := by
  have mL := hm.l
  have mS := hm.s
  have eL := hm.el
  have eS := hm.es
  have HW := Aside0.mk hW
  have HD := Lib.hid hd
  clear hW hd hm
  go_enter Tryz.func132, Tryz.ntmps132
  go_wp2
  go_loopw [6] (fun vi wr => ∃ (i : Nat) (dk : Array α), vi = .int .i64 i ∧ a < i ∧ i ≤ b + 1 ∧ Hid (dk.size = n) ∧ Aside0 (SI enc w blk off dk wr) ∧ Hid (insOuter lt a b i dk = insOuter lt a b (a + 1) d)) (fun vi _ => b + 1 - (intOf vi).toNat)
  case atStart => exact ⟨a + 1, d, by go_num, by omega, by omega, HD, HW, Lib.hid rfl⟩
  case round =>
    obtain ⟨i, dk, rfl, hai, hib, HK, HS, HO⟩ := hrel
    by_cases hlt : i < b
    · have d1 : decide (i < b) = true := decide_eq_true hlt
      go_wp2
      go_loopw [7] (fun vj wr2 => ∃ (j : Nat) (dj : Array α), vj = .int .i64 j ∧ a ≤ j ∧ j ≤ i ∧ Hid (dj.size = n) ∧ Aside0 (SI enc w blk off dj wr2) ∧ Hid (insInner lt a j dj = insInner lt a i dk)) (fun vj _ => (intOf vj).toNat)
      case atStart => exact ⟨i, dk, rfl, by omega, Nat.le_refl _, HK, HS, Lib.hid rfl⟩
      case round =>
        obtain ⟨j, dj, rfl, haj, hji, HJ, HT, HI⟩ := hrel
        have OUT : Hid ((j ≤ a ∨ lt dj[j]! dj[j - 1]! = false) → ∀ W2, SI enc w blk off dj W2 → ∃ (i' : Nat) (dk' : Array α), Value.int .i64 ((i : Int) + 1) = .int .i64 (i' : Nat) ∧ a < i' ∧ i' ≤ b + 1 ∧ Hid (dk'.size = n) ∧ Aside0 (SI enc w blk off dk' W2) ∧ Hid (insOuter lt a b i' dk' = insOuter lt a b (a + 1) d)) := Lib.hid (fun hst W2 h2 =>
          ⟨i + 1, dj, by go_num, by omega, by omega, HJ, ⟨h2⟩, Lib.hid (by rw [← HO.out, outer_go lt _ _ _ _ hlt, ← HI.out, inner_stop lt _ _ _ hst])⟩)
        by_cases hja : a < j
        · have hL := hl wr dj HT.out HJ.out j (j - 1) (by omega) (by omega)
          rw [show (((j - 1 : Nat) : Int)) = (j : Int) - 1 by omega] at hL
          have HSW := Lib.hid (fun W2 h2 => hs W2 dj h2 HJ.out j (j - 1) (by omega) (by omega))
          rw [show (((j - 1 : Nat) : Int)) = (j : Int) - 1 by omega] at HSW
          cases hlv : lt dj[j]! dj[j - 1]! with
          | true =>
            rw [hlv] at hL
            have HL := Lib.hid hL
            clear hL
            go_wp2_with (first
              | (go_at_fn gl; refine HL.out.mono ?_; rintro e w' ⟨rfl, hb1⟩; have HT1 := Aside0.mk (HT.out.below hb1); clear hb1)
              | (go_at_fn gs; refine (HSW.out _ HT1.out).mono ?_; rintro e w' ⟨rfl, hs2⟩; have HT2 := Aside0.mk hs2; clear hs2))
            go_roundw
            case rel => exact ⟨j - 1, swp dj j (j - 1), by congr 1 <;> omega, by omega, by omega, Lib.hid (by rw [swp_size]; exact HJ.out), HT2, Lib.hid (by rw [← HI.out, inner_go lt a j dj hja hlv])⟩
            case measure => simp [intOf]; omega
          | false =>
            rw [hlv] at hL
            have HL := Lib.hid hL
            clear hL
            go_wp2_with (go_at_fn gl; refine HL.out.mono ?_; rintro e w' ⟨rfl, hb1⟩; have HT1 := Aside0.mk (HT.out.below hb1); clear hb1)
            go_roundw
            case rel => exact OUT.out (Or.inr hlv) _ HT1.out
            case measure => simp [intOf]; omega
        · go_wp2
          go_roundw
          case rel => exact OUT.out (Or.inl (by omega)) _ HT.out
          case measure => simp [intOf]; omega
    · have hge := Lib.hid hlt
      have d1 : decide (i < b) = false := decide_eq_false hlt
      clear hlt
      go_wp2
      go_end0
      exact ⟨rfl, by unfold insertionSort; rw [← HO.out, outer_stop lt _ _ _ _ hge.out]; exact HS.out⟩
end Go.Proofs.YtgoeiflddikihaaGreatDoor.Srt
end
section
set_option linter.unusedSimpArgs false
namespace Go.Proofs.YtgoeiflddikihaaGreatDoor.Ver
open Go.RowKit Go.Proofs.YtgoeiflddikihaaGreatDoor.Dig Go.Proofs.YtgoeiflddikihaaGreatDoorW.PrintWords
structure SVok (v : SV) : Prop where
  a0 : 0 ≤ v.major
  a1 : v.major < 18446744073709551616
  b0 : 0 ≤ v.minor
  b1 : v.minor < 18446744073709551616
  c0 : 0 ≤ v.patch
  c1 : v.patch < 18446744073709551616
  p : v.pre.size ≤ 4294967296
  m : v.mt.size ≤ 4294967296
def decB (n : Int) : ByteArray := ⟨(Lib.decDigits n.toNat).toArray⟩
def threeB (v : SV) : ByteArray := decB v.major ++ ⟨#[46]⟩ ++ decB v.minor ++ ⟨#[46]⟩ ++ decB v.patch
def preB (v : SV) : ByteArray := if v.pre = ⟨#[]⟩ then threeB v else threeB v ++ (⟨#[45]⟩ ++ v.pre)
def semB (v : SV) : ByteArray := if v.mt = ⟨#[]⟩ then preB v else preB v ++ (⟨#[43]⟩ ++ v.mt)
theorem decB_size (n : Int) (h0 : 0 ≤ n) (h : n < 18446744073709551616) : (decB n).size ≤ 21 := by
  show (Lib.decDigits n.toNat).toArray.size ≤ 21
  rw [List.size_toArray, Lib.decDigits_length]
  by_cases h1 : 1 ≤ n.toNat
  · have := Lib.numDigits_eq n.toNat h1 (by omega)
    split at this <;> omega
  · have : n.toNat = 0 := by omega
    rw [this, ← Lib.decDigits_length, Lib.decDigits, dif_pos (by omega)]; simp
set_option maxRecDepth 20000 in
theorem semStr_any (v : SV) (hk : SVok v) (w : World) (hv : Vars w) : Calls Tryz.prog 233 #[.agg v.cells] w fun e w' => e = .returned (.string (semB v)) ∧ Below w.heap.size w w' := by
  obtain ⟨va, vb, vc, vp, vm, vo⟩ := v
  obtain ⟨a0, a1, b0, b1, c0, c1, hp, hm⟩ := hk
  dsimp only at a0 a1 b0 b1 c0 c1 hp hm
  have w0 : Below w.heap.size w (w.alloc (.cells #[.int .u64 va, .int .u64 vb, .int .u64 vc, .string vp, .string vm, .string vo] 197)) := below_alloc (Below.refl _ _) _
  have cI : ∀ (n : Int), 0 ≤ n → n < 18446744073709551616 → ∀ d os, Calls Tryz.prog 235 #[.int .u64 n, .int .i64 10] (Sort.grow (redrawn (w.alloc (.cells #[.int .u64 va, .int .u64 vb, .int .u64 vc, .string vp, .string vm, .string vo] 197)) d) os) fun e w'' => e = .returned (.string (decB n)) ∧ ∃ p : Regrown, w'' = Sort.grow (redrawn (w.alloc (.cells #[.int .u64 va, .int .u64 vb, .int .u64 vc, .string vp, .string vm, .string vo] 197)) p.d) p.os :=
    fun n h0 h1 d os => Calls.regrown_of (by
      have h := fmtU_any n.toNat (by omega) _ ((hv.below w0).below (below_regrown _ d os))
      rw [show ((n.toNat : Nat) : Int) = n by omega] at h
      exact h)
  have CA := Lib.hid (cI va a0 a1)
  have CB := Lib.hid (cI vb b0 b1)
  have CC := Lib.hid (cI vc c0 c1)
  have la := decB_size va a0 a1
  have lb := decB_size vb b0 b1
  have lc := decB_size vc c0 c1
  have k0 := cell_regrown (blk_cell (alloc_at w (.cells #[.int .u64 va, .int .u64 vb, .int .u64 vc, .string vp, .string vm, .string vo] 197)) 0)
  have k1 := cell_regrown (blk_cell (alloc_at w (.cells #[.int .u64 va, .int .u64 vb, .int .u64 vc, .string vp, .string vm, .string vo] 197)) 1)
  have k2 := cell_regrown (blk_cell (alloc_at w (.cells #[.int .u64 va, .int .u64 vb, .int .u64 vc, .string vp, .string vm, .string vo] 197)) 2)
  have k3 := cell_regrown (blk_cell (alloc_at w (.cells #[.int .u64 va, .int .u64 vb, .int .u64 vc, .string vp, .string vm, .string vo] 197)) 3)
  have k4 := cell_regrown (blk_cell (alloc_at w (.cells #[.int .u64 va, .int .u64 vb, .int .u64 vc, .string vp, .string vm, .string vo] 197)) 4)
  have hS : semB ⟨va, vb, vc, vp, vm, vo⟩ = (if vm = ⟨#[]⟩ then (if vp = ⟨#[]⟩ then decB va ++ ⟨#[46]⟩ ++ decB vb ++ ⟨#[46]⟩ ++ decB vc else decB va ++ ⟨#[46]⟩ ++ decB vb ++ ⟨#[46]⟩ ++ decB vc ++ (⟨#[45]⟩ ++ vp)) else (if vp = ⟨#[]⟩ then decB va ++ ⟨#[46]⟩ ++ decB vb ++ ⟨#[46]⟩ ++ decB vc else decB va ++ ⟨#[46]⟩ ++ decB vb ++ ⟨#[46]⟩ ++ decB vc ++ (⟨#[45]⟩ ++ vp)) ++ (⟨#[43]⟩ ++ vm)) := rfl
  rw [hS]
  dsimp only [SV.cells]
  clear cI a0 a1 b0 b1 c0 c1 hS hv
  generalize decB va = sa at *
  generalize decB vb = sb at *
  generalize decB vc = sc at *
  go_enter Tryz.func233, Tryz.ntmps233
  have n1 : ¬ 9223372036854775807 < sa.size + 1 := by omega
  have n2 : ¬ 9223372036854775807 < sa.size + 1 + sb.size := by omega
  have n3 : ¬ 9223372036854775807 < sa.size + 1 + sb.size + 1 := by omega
  have n4 : ¬ 9223372036854775807 < sa.size + 1 + sb.size + 1 + sc.size := by omega
  go_wp2
  refine wp_region_quiet_below (by kernel_rfl) (by kernel_rfl) ?_
  repeat (quiet_step (first | exact CA.out _ _ | exact CB.out _ _ | exact CC.out _ _))
  refine wpQuiet_nil ?_
  intro _ hw'
  obtain ⟨⟨dq, osq⟩, hw''⟩ := hw'
  subst hw''
  have hsum : (sa ++ ⟨#[46]⟩ ++ sb ++ ⟨#[46]⟩ ++ sc).size ≤ 100 := by simp only [ByteArray.size_append]; have : (⟨#[46]⟩ : ByteArray).size = 1 := rfl; omega
  clear n1 n2 n3 n4
  generalize ht : sa ++ ⟨#[46]⟩ ++ sb ++ ⟨#[46]⟩ ++ sc = t3 at *
  have HT := Lib.hid ht
  clear ht
  have z3 := k3 dq osq
  have z4 := k4 dq osq
  have HBB := Aside0.mk (below_trans w0 (below_regrown _ dq osq))
  have hone : (⟨#[45]⟩ : ByteArray).size = 1 := rfl
  have hone2 : (⟨#[43]⟩ : ByteArray).size = 1 := rfl
  have m1 : ¬ 9223372036854775807 < 1 + vp.size := by omega
  have m2 : ¬ 9223372036854775807 < t3.size + (1 + vp.size) := by omega
  have m3 : ¬ 9223372036854775807 < 1 + vm.size := by omega
  have m4 : ¬ 9223372036854775807 < t3.size + (1 + vm.size) := by omega
  have m5 : ¬ 9223372036854775807 < t3.size + (1 + vp.size) + (1 + vm.size) := by omega
  clear k0 k1 k2 k3 k4 w0 CA CB CC
  by_cases hp0 : vp = ⟨#[]⟩
  · by_cases hm0 : vm = ⟨#[]⟩
    · have e1 : vp.toList.isEmpty = true := isEmpty_true (by rw [hp0]; rfl)
      have e2 : vm.toList.isEmpty = true := isEmpty_true (by rw [hm0]; rfl)
      have HM0 := Lib.hid hm0
      have HP0 := Lib.hid hp0
      clear hp0 hm0
      go_wp2
      go_ret
      refine ⟨?_, by first | exact HBB.out | exact below_trans (below_alloc (Below.refl _ _) _) (below_regrown _ _ _)⟩
      simp [HT.out, HM0.out, HP0.out]
    · have e1 : vp.toList.isEmpty = true := isEmpty_true (by rw [hp0]; rfl)
      have e2 : vm.toList.isEmpty = false := isEmpty_false (size_pos hm0)
      have HM0 := Lib.hid hm0
      have HP0 := Lib.hid hp0
      clear hp0 hm0
      go_wp2
      go_ret
      refine ⟨?_, by first | exact HBB.out | exact below_trans (below_alloc (Below.refl _ _) _) (below_regrown _ _ _)⟩
      simp [HT.out, HM0.out, HP0.out]
  · by_cases hm0 : vm = ⟨#[]⟩
    · have e1 : vp.toList.isEmpty = false := isEmpty_false (size_pos hp0)
      have e2 : vm.toList.isEmpty = true := isEmpty_true (by rw [hm0]; rfl)
      have HM0 := Lib.hid hm0
      have HP0 := Lib.hid hp0
      clear hp0 hm0
      go_wp2
      go_ret
      refine ⟨?_, by first | exact HBB.out | exact below_trans (below_alloc (Below.refl _ _) _) (below_regrown _ _ _)⟩
      simp [HT.out, HM0.out, HP0.out]
    · have e1 : vp.toList.isEmpty = false := isEmpty_false (size_pos hp0)
      have e2 : vm.toList.isEmpty = false := isEmpty_false (size_pos hm0)
      have HM0 := Lib.hid hm0
      have HP0 := Lib.hid hp0
      clear hp0 hm0
      go_wp2
      go_ret
      refine ⟨?_, by first | exact HBB.out | exact below_trans (below_alloc (Below.refl _ _) _) (below_regrown _ _ _)⟩
      simp [HT.out, HM0.out, HP0.out]
end Go.Proofs.YtgoeiflddikihaaGreatDoor.Ver
end
section
namespace Go.Proofs.YtgoeiflddikihaaGreatDoor.Srt
open Go.RowKit Go.Proofs.YtgoeiflddikihaaGreatDoorW.PrintWords Go.Sort
variable {α : Type} [Inhabited α]
theorem bitsLen_any (n : Nat) (hn : n < 4611686018427387904) (w : World) : Calls Tryz.prog 123 #[.int .u64 n] w fun e w' => e = .returned (.int .i64 (Lib.bitLen n)) ∧ Drawn0 w w' := by
  have h64 := Lib.hid (fun W => Tryz.bits_Len64 (n : Int) W (by omega) (by omega))
  rw [Int.toNat_natCast] at h64
  have hb := Lib.bitLen_le n 62 (by omega) (by omega)
  generalize Lib.bitLen n = b at *
  go_enter Tryz.func123, Tryz.ntmps123
  go_wp2_with (go_at_call 131; ((with_reducible refine (h64.out _).mono ?_); rintro e w1 ⟨rfl, rfl⟩))
  go_ret
  exact ⟨rfl, by repeat (first | exact Drawn0.refl _ | apply Drawn0.step)⟩
set_option maxRecDepth 20000 in
set_option maxHeartbeats 2000000 in
theorem pdq_short {T : TypeId} {rv : Value} {gn gl gs : Nat} (hm : Meth T rv gn gl gs) (enc : α → Value) (lt : α → α → Bool) (w : World) (blk off n : Nat) (hl : LessC gl rv enc lt w blk off n) (hs : SwapC gs rv enc w blk off n) (hn : n ≤ 12)
    (k : Int) (W : World) (d : Array α) (hd : d.size = n) (hW : SI enc w blk off d W) :
    Calls Tryz.prog 124 #[.iface T rv, .int .i64 0, .int .i64 n, .int .i64 k] W fun e w' => e = .returned (.tuple #[]) ∧ SI enc w blk off (insertionSort lt d 0 n) w' := by
  have HI := Lib.hid (fun W2 h2 => ins_any hm enc lt w blk off n hl hs (by omega) 0 n (Nat.zero_le _) (Nat.le_refl _) W2 d hd h2)
  have HW := Aside0.mk hW
  clear hW hd hl hs hm
  have d1 : decide ((n : Int) ≤ 12) = true := decide_eq_true (by omega)
  go_enter Tryz.func124, Tryz.ntmps124
  go_wp2_with fail
  refine wp_loop_rounds 1 ?_
  rw [rounds_succ]
  go_wp2_with (go_at_call 132; refine (HI.out _ HW.out).mono ?_; rintro e w1 ⟨rfl, hs1⟩; have HW1 := Aside0.mk hs1; clear hs1)
  (try simp only [Exit.inBlock, Exit.then])
  refine bodyPost_ret (results_none rfl _ _ _) rfl ?_
  exact ⟨rfl, HW1.out⟩
set_option maxHeartbeats 2000000 in
theorem sort_short {T : TypeId} {rv : Value} {gn gl gs : Nat} (hm : Meth T rv gn gl gs) (enc : α → Value) (lt : α → α → Bool) (w : World) (blk off n : Nat) (hl : LessC gl rv enc lt w blk off n) (hs : SwapC gs rv enc w blk off n) (h2 : 2 ≤ n) (hn : n ≤ 12)
    (hlen : ∀ W, Calls Tryz.prog gn #[rv] W fun e w' => e = .returned (.int .i64 n) ∧ Drawn0 W w') (d : Array α) (hd : d.size = n) (hH : Holds enc w blk off d) (hb : blk < w.heap.size) :
    Calls Tryz.prog 102 #[.iface T rv] w fun e w' => e = .returned (.tuple #[]) ∧ SI enc w blk off (insertionSort lt d 0 n) w' := by
  have HP := Lib.hid (fun k W2 h2 => pdq_short hm enc lt w blk off n hl hs hn k W2 d hd h2)
  have HW := Aside0.mk (SI.mk (World.grownBy.refl w (some blk)) hH hb)
  have HL := Lib.hid hlen
  have HBL := Lib.hid (fun W => bitsLen_any n (by omega) W)
  have mN := hm.n
  have eN := hm.en
  have d1 : decide ((n : Int) ≤ 1) = false := decide_eq_false (by omega)
  clear hd hl hs hm hlen hH hb
  go_enter Tryz.func102, Tryz.ntmps102
  go_wp2_with (first
    | (go_at_fn gn; refine (HL.out _).mono ?_; rintro e w1 ⟨rfl, ⟨q1, rfl⟩⟩)
    | (go_at_call 123; ((with_reducible refine (HBL.out _).mono ?_); rintro e w1 ⟨rfl, ⟨q2, rfl⟩⟩))
    | (go_at_call 124; refine (HP.out _ _ (by repeat (first | exact HW.out | apply SI.drewN))).mono ?_; rintro e w1 ⟨rfl, hs1⟩; have HW1 := Aside0.mk hs1; clear hs1))
  go_end0
  exact ⟨rfl, HW1.out⟩
theorem sort_tiny {T : TypeId} {rv : Value} {gn gl gs : Nat} (hm : Meth T rv gn gl gs) (n : Nat) (hn : n ≤ 1)
    (hlen : ∀ W, Calls Tryz.prog gn #[rv] W fun e w' => e = .returned (.int .i64 n) ∧ Drawn0 W w') (w : World) :
    Calls Tryz.prog 102 #[.iface T rv] w fun e w' => e = .returned (.tuple #[]) ∧ Drawn0 w w' := by
  have HL := Lib.hid hlen
  have mN := hm.n
  have eN := hm.en
  have d1 : decide ((n : Int) ≤ 1) = true := decide_eq_true (by omega)
  clear hm hlen hn
  go_enter Tryz.func102, Tryz.ntmps102
  go_wp2_with (go_at_fn gn; refine (HL.out _).mono ?_; rintro e w1 ⟨rfl, ⟨q1, rfl⟩⟩)
  (try simp only [Exit.inBlock, Exit.then])
  refine bodyPost_ret (results_none rfl _ _ _) rfl ?_
  exact ⟨rfl, by repeat (first | exact Drawn0.refl _ | apply Drawn0.step)⟩
end Go.Proofs.YtgoeiflddikihaaGreatDoor.Srt
end
section
namespace Go.Proofs.YtgoeiflddikihaaGreatDoor.Ver
open Go.RowKit Go.Proofs.YtgoeiflddikihaaGreatDoor.Dig Go.Proofs.YtgoeiflddikihaaGreatDoorW.PrintWords
theorem numOf_lt {l r : List UInt8} {u : Nat} (h : numOf l = some (u, r)) : u < 18446744073709551616 ∧ r.length ≤ l.length := by
  unfold numOf at h
  split at h
  · cases h
  · split at h
    · rename_i u' hu
      simp at h
      obtain ⟨rfl, rfl⟩ := h
      have := Lib.parseUintB_le hu
      exact ⟨by have e : 2 ^ 64 - 1 = 18446744073709551615 := rfl; omega, by rw [List.length_drop]; omega⟩
    · cases h
theorem nums_ok : ∀ (m : Nat) (acc ns : List Nat) (l r : List UInt8), (∀ x ∈ acc, x < 18446744073709551616) → nums m acc l = some (ns, r) → (∀ x ∈ ns, x < 18446744073709551616) ∧ r.length ≤ l.length
  | 0, _, _, _, _, _, h => by simp [nums] at h
  | m + 1, acc, ns, l, r, ha, h => by
    rw [nums] at h
    split at h
    · cases h
    · rename_i a r' hn
      have hl := numOf_lt hn
      have hb : ∀ x ∈ acc ++ [a], x < 18446744073709551616 := fun x hx => by
        rcases List.mem_append.1 hx with hx | hx
        · exact ha x hx
        · rw [List.mem_singleton] at hx; rw [hx]; exact hl.1
      split at h
      · have := nums_ok m _ _ _ _ hb h
        exact ⟨this.1, by have h2 := this.2; rw [List.length_drop] at h2; omega⟩
      · simp at h
        obtain ⟨rfl, rfl⟩ := h
        exact ⟨hb, hl.2⟩
theorem part_len {c : UInt8} {l p r : List UInt8} (h : part c l = some (p, r)) : p.length ≤ l.length ∧ r.length ≤ l.length := by
  cases l with
  | nil => simp [part] at h; rw [h.1, h.2]; simp
  | cons x q =>
    rw [part] at h
    split at h
    · split at h
      · cases h
      · simp at h
        obtain ⟨rfl, rfl⟩ := h
        rw [List.length_take, List.length_drop, List.length_cons]
        omega
    · simp at h
      obtain ⟨rfl, rfl⟩ := h
      simp
theorem getD_lt {ns : List Nat} (h : ∀ x ∈ ns, x < 18446744073709551616) (i : Nat) : ns.getD i 0 < 18446744073709551616 := by
  rw [List.getD_eq_getElem?_getD]
  cases hx : ns[i]? with
  | none => simp
  | some x => exact h x (List.mem_of_getElem? hx)
theorem readV_ok' {s : ByteArray} {v : SV} {k : Nat} (hs : s.size ≤ 2147483647) (h : readV s = some (v, k)) : SVok v ∧ v.orig = s := by
  have hb := bare0_size s
  unfold readV at h
  split at h
  · cases h
  · rename_i ns r hn
    have h1 := nums_ok 3 [] ns _ r (fun x hx => by cases hx) hn
    split at h
    · cases h
    · rename_i pre r1 hp
      have h2 := part_len hp
      split at h
      · cases h
      · rename_i mt r2 hm
        have h3 := part_len hm
        split at h
        · injection h with h
          injection h with h h'
          subst h
          refine ⟨⟨by simp, ?_, by simp, ?_, by simp, ?_, ?_, ?_⟩, rfl⟩
          · show ((ns.getD 0 0 : Nat) : Int) < _
            have := getD_lt h1.1 0; omega
          · show ((ns.getD 1 0 : Nat) : Int) < _
            have := getD_lt h1.1 1; omega
          · show ((ns.getD 2 0 : Nat) : Int) < _
            have := getD_lt h1.1 2; omega
          · show pre.toArray.size ≤ _
            rw [List.size_toArray]; omega
          · show mt.toArray.size ≤ _
            rw [List.size_toArray]; omega
        · cases h
def Unp.ok : Unp → Prop
  | .branch n _ => n.size ≤ 2147483647
  | .plain n => n.size ≤ 2147483647
  | .sem v => SVok v ∧ v.orig.size ≤ 2147483647
def Vers.ok : Vers → Prop
  | .rev s => s.size ≤ 2147483647
  | .un u => u.ok
  | .pair u r => u.ok ∧ r.size ≤ 2147483647
theorem newV_ok {s : ByteArray} (hs : s.size ≤ 2147483647) : (newV s).ok := by
  unfold newV
  split
  · exact hs
  · rename_i v k h
    have := readV_ok' hs h
    exact ⟨this.1, by rw [this.2]; exact hs⟩
theorem unpV_ok {k : Int} {t : ByteArray} (ht : t.size ≤ 2147483647) {u : Unp} (h : unpV k t = some u) : u.ok := by
  unfold unpV at h
  repeat' split at h
  · cases h; exact ht
  · cases h; exact ht
  · cases h; exact newV_ok ht
  · cases h
theorem verV_ok (k : Int) {t r : ByteArray} (ht : t.size ≤ 2147483647) (hr : r.size ≤ 2147483647) : (verV k t r).ok := by
  unfold verV
  split
  · exact ht
  · rename_i u hu
    split
    · exact unpV_ok ht hu
    · exact ⟨unpV_ok ht hu, hr⟩
end Go.Proofs.YtgoeiflddikihaaGreatDoor.Ver
end
section
namespace Go.Proofs.YtgoeiflddikihaaGreatDoor.Ver
open Go.RowKit
theorem c_rev_rev (v : Value) (xT : TypeId) (w : World) : (Instr.typeAssert (.iface 135 v) xT 135 true).run Tryz.prog w = .ok (.tuple #[v, .bool true]) w := by kernel_rfl
theorem c_rev_branch (v : Value) (xT : TypeId) (w : World) : (Instr.typeAssert (.iface 135 v) xT 215 true).run Tryz.prog w = .ok (.tuple #[.agg #[.string ⟨#[]⟩, .bool false], .bool false]) w := by kernel_rfl
theorem c_rev_plain (v : Value) (xT : TypeId) (w : World) : (Instr.typeAssert (.iface 135 v) xT 224 true).run Tryz.prog w = .ok (.tuple #[.string ⟨#[]⟩, .bool false]) w := by kernel_rfl
theorem c_rev_sem (v : Value) (xT : TypeId) (w : World) : (Instr.typeAssert (.iface 135 v) xT 200 true).run Tryz.prog w = .ok (.tuple #[.agg zSV, .bool false]) w := by kernel_rfl
theorem c_rev_pair (v : Value) (xT : TypeId) (w : World) : (Instr.typeAssert (.iface 135 v) xT 212 true).run Tryz.prog w = .ok (.tuple #[.agg #[.nilIface, .string ⟨#[]⟩], .bool false]) w := by kernel_rfl
theorem c_branch_rev (v : Value) (xT : TypeId) (w : World) : (Instr.typeAssert (.iface 215 v) xT 135 true).run Tryz.prog w = .ok (.tuple #[.string ⟨#[]⟩, .bool false]) w := by kernel_rfl
theorem c_branch_branch (v : Value) (xT : TypeId) (w : World) : (Instr.typeAssert (.iface 215 v) xT 215 true).run Tryz.prog w = .ok (.tuple #[v, .bool true]) w := by kernel_rfl
theorem c_branch_plain (v : Value) (xT : TypeId) (w : World) : (Instr.typeAssert (.iface 215 v) xT 224 true).run Tryz.prog w = .ok (.tuple #[.string ⟨#[]⟩, .bool false]) w := by kernel_rfl
theorem c_branch_sem (v : Value) (xT : TypeId) (w : World) : (Instr.typeAssert (.iface 215 v) xT 200 true).run Tryz.prog w = .ok (.tuple #[.agg zSV, .bool false]) w := by kernel_rfl
theorem c_branch_pair (v : Value) (xT : TypeId) (w : World) : (Instr.typeAssert (.iface 215 v) xT 212 true).run Tryz.prog w = .ok (.tuple #[.agg #[.nilIface, .string ⟨#[]⟩], .bool false]) w := by kernel_rfl
theorem c_plain_rev (v : Value) (xT : TypeId) (w : World) : (Instr.typeAssert (.iface 224 v) xT 135 true).run Tryz.prog w = .ok (.tuple #[.string ⟨#[]⟩, .bool false]) w := by kernel_rfl
theorem c_plain_branch (v : Value) (xT : TypeId) (w : World) : (Instr.typeAssert (.iface 224 v) xT 215 true).run Tryz.prog w = .ok (.tuple #[.agg #[.string ⟨#[]⟩, .bool false], .bool false]) w := by kernel_rfl
theorem c_plain_plain (v : Value) (xT : TypeId) (w : World) : (Instr.typeAssert (.iface 224 v) xT 224 true).run Tryz.prog w = .ok (.tuple #[v, .bool true]) w := by kernel_rfl
theorem c_plain_sem (v : Value) (xT : TypeId) (w : World) : (Instr.typeAssert (.iface 224 v) xT 200 true).run Tryz.prog w = .ok (.tuple #[.agg zSV, .bool false]) w := by kernel_rfl
theorem c_plain_pair (v : Value) (xT : TypeId) (w : World) : (Instr.typeAssert (.iface 224 v) xT 212 true).run Tryz.prog w = .ok (.tuple #[.agg #[.nilIface, .string ⟨#[]⟩], .bool false]) w := by kernel_rfl
theorem c_sem_rev (v : Value) (xT : TypeId) (w : World) : (Instr.typeAssert (.iface 200 v) xT 135 true).run Tryz.prog w = .ok (.tuple #[.string ⟨#[]⟩, .bool false]) w := by kernel_rfl
theorem c_sem_branch (v : Value) (xT : TypeId) (w : World) : (Instr.typeAssert (.iface 200 v) xT 215 true).run Tryz.prog w = .ok (.tuple #[.agg #[.string ⟨#[]⟩, .bool false], .bool false]) w := by kernel_rfl
theorem c_sem_plain (v : Value) (xT : TypeId) (w : World) : (Instr.typeAssert (.iface 200 v) xT 224 true).run Tryz.prog w = .ok (.tuple #[.string ⟨#[]⟩, .bool false]) w := by kernel_rfl
theorem c_sem_sem (v : Value) (xT : TypeId) (w : World) : (Instr.typeAssert (.iface 200 v) xT 200 true).run Tryz.prog w = .ok (.tuple #[v, .bool true]) w := by kernel_rfl
theorem c_sem_pair (v : Value) (xT : TypeId) (w : World) : (Instr.typeAssert (.iface 200 v) xT 212 true).run Tryz.prog w = .ok (.tuple #[.agg #[.nilIface, .string ⟨#[]⟩], .bool false]) w := by kernel_rfl
theorem c_pair_rev (v : Value) (xT : TypeId) (w : World) : (Instr.typeAssert (.iface 212 v) xT 135 true).run Tryz.prog w = .ok (.tuple #[.string ⟨#[]⟩, .bool false]) w := by kernel_rfl
theorem c_pair_sem (v : Value) (xT : TypeId) (w : World) : (Instr.typeAssert (.iface 212 v) xT 200 true).run Tryz.prog w = .ok (.tuple #[.agg zSV, .bool false]) w := by kernel_rfl
theorem c_pair_pair (v : Value) (xT : TypeId) (w : World) : (Instr.typeAssert (.iface 212 v) xT 212 true).run Tryz.prog w = .ok (.tuple #[v, .bool true]) w := by kernel_rfl
theorem c_sv_sv (v : Value) (xT : TypeId) (w : World) : (Instr.typeAssert (.iface 197 v) xT 197 true).run Tryz.prog w = .ok (.tuple #[v, .bool true]) w := by kernel_rfl
theorem c_range_sv (v : Value) (xT : TypeId) (w : World) : (Instr.typeAssert (.iface 238 v) xT 197 true).run Tryz.prog w = .ok (.tuple #[.agg zSV, .bool false]) w := by kernel_rfl
theorem c_range_range (v : Value) (xT : TypeId) (w : World) : (Instr.typeAssert (.iface 238 v) xT 238 true).run Tryz.prog w = .ok (.tuple #[v, .bool true]) w := by kernel_rfl
end Go.Proofs.YtgoeiflddikihaaGreatDoor.Ver
end
section
namespace Go.Proofs.YtgoeiflddikihaaGreatDoor.Srt
open Go.RowKit Go.Proofs.YtgoeiflddikihaaGreatDoorW.PrintWords Go.Sort
variable {α : Type} [Inhabited α]
structure SC (enc : α → Value) (w : World) (blk off : Nat) (d : Array α) (cb : Nat) (s : Value) (t : TypeId) (W : World) : Prop where
  si : SI enc w blk off d W
  cnt : W.heap[cb]? = some (.cells #[s] t (0, 0))
  hi : w.heap.size ≤ cb
theorem SC.below {enc : α → Value} {w : World} {blk off : Nat} {d : Array α} {cb : Nat} {s : Value} {t : TypeId} {W W' : World} (h : SC enc w blk off d cb s t W) (hb : Below W.heap.size W W') : SC enc w blk off d cb s t W' :=
  ⟨h.si.below hb, blk_below h.cnt hb, h.hi⟩
theorem SC.drewN {enc : α → Value} {w : World} {blk off : Nat} {d : Array α} {cb : Nat} {s : Value} {t : TypeId} {W : World} (h : SC enc w blk off d cb s t W) (n : Nat) : SC enc w blk off d cb s t (W.drewN n) := h.below (pw_below_drewN (Below.refl _ _) n)
theorem SI.setNew {enc : α → Value} {w : World} {blk off : Nat} {d : Array α} {W : World} (h : SI enc w blk off d W) {cb : Nat} (hi : w.heap.size ≤ cb) (o : Nat) (u : Value) : SI enc w blk off d (W.setCell ⟨cb, o, none⟩ u) := by
  have hne : cb ≠ blk := by have := h.lt; omega
  refine ⟨?_, fun j hj => ?_, h.lt⟩
  · exact ⟨h.gr.os, h.gr.tape, h.gr.output, by rw [show (W.setCell ⟨cb, o, none⟩ u).heap.size = W.heap.size by simp [World.setCell]]; exact h.gr.size, fun k hk hr => (RowKit.Below.heap_setCell W ⟨cb, o, none⟩ u k (by show k ≠ cb; omega)).trans (h.gr.block k hk hr)⟩
  · obtain ⟨h1, h2⟩ := h.holds j hj
    refine ⟨?_, by rw [World.frozen?_setCell]; exact h2⟩
    rw [World.cell?_setCell_other _ _ _ _ (by intro e'; injection e' with e1 _; exact hne e1)]
    exact h1
theorem SC.put {enc : α → Value} {w : World} {blk off : Nat} {d : Array α} {cb : Nat} {s : Value} {t : TypeId} {W : World} (h : SC enc w blk off d cb s t W) (u : Value) : SC enc w blk off d cb u t (W.setCell ⟨cb, 0, none⟩ u) :=
  ⟨h.si.setNew h.hi 0 u, blk_put (cs' := #[u]) h.cnt 0 u rfl, h.hi⟩
theorem SC.cell {enc : α → Value} {w : World} {blk off : Nat} {d : Array α} {cb : Nat} {s : Value} {t : TypeId} {W : World} (h : SC enc w blk off d cb s t W) : W.cell? ⟨cb, 0, none⟩ = some s := by
  have := blk_cell h.cnt 0
  exact this
theorem SC.frozen {enc : α → Value} {w : World} {blk off : Nat} {d : Array α} {cb : Nat} {s : Value} {t : TypeId} {W : World} (h : SC enc w blk off d cb s t W) : W.frozen? ⟨cb, 0, none⟩ = false := blk_frozen h.cnt 0
end Go.Proofs.YtgoeiflddikihaaGreatDoor.Srt
end
