/- Merged by program out of: Piece, VFmt, VStr. -/
import Derived.Test.YtgoeiflddikihaaGreatDoorCtM9
import Derived.Test.YtgoeiflddikihaaGreatDoorCtM5
import Derived.RegionTactic
import Derived.BigRegion
import Derived.WalkLawsBesides
import Derived.Lib.ItoaMem
import Derived.WalkKit
import Derived.Deep.RegionLaw
import Derived.BigQuiet
import Derived.Lib.QuietBelow
section
namespace Go.Proofs.YtgoeiflddikihaaGreatDoor.Ver
set_option linter.unusedSimpArgs false
open Go.RowKit Go.Proofs.YtgoeiflddikihaaGreatDoorW.PrintWords Go.Proofs.YtgoeiflddikihaaGreatDoor.Ord

theorem at_second (w : World) (a b : Obj) : ((w.alloc a).alloc b).heap[w.heap.size + 1]? = some b := by
  have := alloc_at (w.alloc a) b
  rw [alloc_size] at this
  exact this
/-- A piece's cells. -/
def pcs (lo hi : SV) (a b c d : Bool) : Array Value := #[.int .u64 lo.major, .int .u64 lo.minor, .int .u64 lo.patch, .string lo.pre, .string lo.mt, .string lo.orig, .int .u64 hi.major, .int .u64 hi.minor, .int .u64 hi.patch, .string hi.pre, .string hi.mt, .string hi.orig, .bool a, .bool b, .bool c, .bool d, .slice none 0 0]

abbrev bP (la lb lc : Int) (lp lm lo : ByteArray) (ha hb hc : Int) (hp hm ho : ByteArray) (a b c d : Bool) : Obj := .cells #[.int .u64 la, .int .u64 lb, .int .u64 lc, .string lp, .string lm, .string lo, .int .u64 ha, .int .u64 hb, .int .u64 hc, .string hp, .string hm, .string ho, .bool a, .bool b, .bool c, .bool d, .slice none 0 0] 242 (0, 0)
set_option maxRecDepth 20000 in
set_option maxHeartbeats 2000000 in
theorem has_in (lo hi v : SV) (hl : lo.pre.size ≤ 140737488351232) (hh : hi.pre.size ≤ 140737488351232) (hv : v.pre.size ≤ 140737488351232) (c1 : cmpV v lo = 1) (c2 : cmpV v hi = -1) (d : Bool) (w : World) :
    Calls Tryz.prog 300 #[.agg (pcs lo hi true true true d), .agg v.cells] w fun e w' => e = .returned (.bool true) ∧ Below w.heap.size w w' := by
  have HC1 := Lib.hid (fun W => cmp_any v lo hv hl W)
  have HC2 := Lib.hid (fun W => cmp_any v hi hv hh W)
  rw [c1] at HC1
  rw [c2] at HC2
  clear c1 c2
  have HB := Aside0.mk (Below.refl w.heap.size w)
  obtain ⟨la, lb, lc, lp, lm, lo'⟩ := lo
  obtain ⟨ha, hb', hc, hp, hm, ho⟩ := hi
  obtain ⟨va, vb, vc, vp, vm, vo⟩ := v
  dsimp only [SV.cells, pcs] at HC1 HC2 hl hh hv ⊢
  have KP := Aside0.mk (blk_alloc (alloc_at w (bP la lb lc lp lm lo' ha hb' hc hp hm ho true true true d)) (bSV va vb vc vp vm vo))
  have KV := Aside0.mk (at_second w (bP la lb lc lp lm lo' ha hb' hc hp hm ho true true true d) (bSV va vb vc vp vm vo))
  go_enter Tryz.func300, Tryz.ntmps300
  go_wp2_with (first
    | (go_at_call 209; ((with_reducible refine (HC1.out _).mono ?_); rintro e w1 ⟨rfl, hb1⟩; refine Hid.out ?_)))
  have KP1 := Aside0.mk (blk_below KP.out hb1)
  have KV1 := Aside0.mk (blk_below KV.out hb1)
  have HB4 := Aside0.mk (below_trans (by repeat (first | exact HB.out | apply below_alloc | apply pw_below_drewN)) hb1)
  clear hb1
  have p0 := blk_cell KP1.out 0
  have p1 := blk_cell KP1.out 1
  have p2 := blk_cell KP1.out 2
  have p3 := blk_cell KP1.out 3
  have p4 := blk_cell KP1.out 4
  have p5 := blk_cell KP1.out 5
  have p6 := blk_cell KP1.out 6
  have p7 := blk_cell KP1.out 7
  have p8 := blk_cell KP1.out 8
  have p9 := blk_cell KP1.out 9
  have p10 := blk_cell KP1.out 10
  have p11 := blk_cell KP1.out 11
  have p12 := blk_cell KP1.out 12
  have p13 := blk_cell KP1.out 13
  have p14 := blk_cell KP1.out 14
  have p15 := blk_cell KP1.out 15
  have p16 := blk_cell KP1.out 16
  have q0 := blk_cell KV1.out 0
  have q1 := blk_cell KV1.out 1
  have q2 := blk_cell KV1.out 2
  have q3 := blk_cell KV1.out 3
  have q4 := blk_cell KV1.out 4
  have q5 := blk_cell KV1.out 5
  refine Lib.hid ?_
  go_wp2_with (first
    | (go_at_call 209; ((with_reducible refine (HC2.out _).mono ?_); rintro e w2 ⟨rfl, hb2⟩; refine Hid.out ?_)))
  clear p0 p1 p2 p3 p4 p5 p6 p7 p8 p9 p10 p11 p12 p13 p14 p15 p16
  clear q0 q1 q2 q3 q4 q5
  have KP2 := Aside0.mk (blk_below KP1.out hb2)
  have HB5 := Aside0.mk (below_trans HB4.out hb2)
  clear hb2
  have p0 := blk_cell KP2.out 0
  have p1 := blk_cell KP2.out 1
  have p2 := blk_cell KP2.out 2
  have p3 := blk_cell KP2.out 3
  have p4 := blk_cell KP2.out 4
  have p5 := blk_cell KP2.out 5
  have p6 := blk_cell KP2.out 6
  have p7 := blk_cell KP2.out 7
  have p8 := blk_cell KP2.out 8
  have p9 := blk_cell KP2.out 9
  have p10 := blk_cell KP2.out 10
  have p11 := blk_cell KP2.out 11
  have p12 := blk_cell KP2.out 12
  have p13 := blk_cell KP2.out 13
  have p14 := blk_cell KP2.out 14
  have p15 := blk_cell KP2.out 15
  have p16 := blk_cell KP2.out 16
  refine Lib.hid ?_
  go_wp2_with fail
  refine wp_loop_rounds 1 ?_
  rw [rounds_succ]
  go_wp2_with fail
  go_ret
  exact ⟨rfl, by repeat (first | exact HB5.out | apply below_alloc | apply pw_below_drewN)⟩

set_option maxRecDepth 20000 in
set_option maxHeartbeats 2000000 in
theorem empty_in (lo hi : SV) (hl : lo.pre.size ≤ 140737488351232) (hh : hi.pre.size ≤ 140737488351232) (c1 : cmpV lo hi = -1) (c d : Bool) (w : World) :
    Calls Tryz.prog 299 #[.agg (pcs lo hi true true c d)] w fun e w' => e = .returned (.bool false) ∧ Below w.heap.size w w' := by
  have HC1 := Lib.hid (fun W => cmp_any lo hi hl hh W)
  rw [c1] at HC1
  clear c1
  have HB := Aside0.mk (Below.refl w.heap.size w)
  obtain ⟨la, lb, lc, lp, lm, lo'⟩ := lo
  obtain ⟨ha, hb', hc, hp, hm, ho⟩ := hi
  dsimp only [SV.cells, pcs] at HC1 hl hh ⊢
  go_enter Tryz.func299, Tryz.ntmps299
  go_wp2_with (first
    | (go_at_call 209; ((with_reducible refine (HC1.out _).mono ?_); rintro e w1 ⟨rfl, hb1⟩; have HB5 := Aside0.mk (below_trans (by repeat (first | exact HB.out | apply below_alloc | apply pw_below_drewN)) hb1); clear hb1)))
  go_ret
  exact ⟨rfl, by repeat (first | exact HB5.out | apply below_alloc | apply pw_below_drewN)⟩

end Go.Proofs.YtgoeiflddikihaaGreatDoor.Ver
end
section
namespace Go.Proofs.YtgoeiflddikihaaGreatDoor.Ver
open Go.RowKit Go.Sort Go.Proofs.YtgoeiflddikihaaGreatDoor.Dig Go.Proofs.YtgoeiflddikihaaGreatDoorW.PrintWords

theorem zero_row (w : World) (T : TypeId) (nd : Nat) (hs : nd ≤ 24) : Holds (fun (b : UInt8) => Value.int .u8 (b.toNat : Int)) (w.alloc (.cells Lib.zeros24 T)) w.heap.size 0 (Array.replicate nd (0 : UInt8)) := fun j hj => by
  have hj' : j < nd := by simpa using hj
  refine ⟨?_, World.frozen?_alloc_new _ _ _ _⟩
  rw [World.cell?_alloc_new, Lib.zeros24_at _ (by omega), getElem!_pos _ j hj]
  simp
theorem row_below (w : World) (o : Obj) (dk : Array UInt8) (k : Nat) : Below w.heap.size w ((putRow (fun (b : UInt8) => Value.int .u8 (b.toNat : Int)) (w.alloc o) w.heap.size 0 dk).drewN k) := by
  rw [alloc_eq_grow]
  obtain ⟨os', _, e⟩ := putRow_grow_new (fun (b : UInt8) => Value.int .u8 (b.toNat : Int)) w #[o] w.heap.size 0 dk (Nat.le_refl _)
  rw [e]
  exact ⟨rfl, by simp [World.drewN, Sort.grow], rfl, by simp [World.drewN, Sort.grow], fun j hj => by simp [World.drewN, Sort.grow, Array.getElem?_append]; intro h; exact absurd h (by omega)⟩

set_option maxRecDepth 20000 in
theorem fmtU_inner (u : Nat) (hu : u < 18446744073709551616) (w : World) (hv : Vars w) : Calls Tryz.prog 236 #[.int .u64 u, .int .i64 10] w fun e w' => e = .returned (.string ⟨(Lib.decDigits u).toArray⟩) ∧ Below w.heap.size w w' := by
  by_cases hs : u < 100
  · go_enter Tryz.func236, Tryz.ntmps236
    go_wp2_with (go_at_call 168; (refine (Tryz.internal_strconv_small u hs _).mono ?_; rintro e w' ⟨rfl, rfl⟩))
    go_ret
    exact ⟨rfl, Below.refl _ _⟩
  · have hu1 : 1 ≤ u := by omega
    have hnd20 : Lib.nDigits u ≤ 20 := by have := Lib.numDigits_eq u hu1 hu; split at this <;> omega
    have hsl1 : ∀ W, (Instr.sliceAt 277 (.pointer (some ⟨w.heap.size, 0, none⟩)) none (some (.int .i64 (Lib.nDigits u : Int))) none).run Tryz.prog W = .ok (.slice (some ⟨w.heap.size, 0, none⟩) (Lib.nDigits u) 24) W := fun W => by
      rw [run_sliceAt_array_h W 277 ⟨w.heap.size, 0, none⟩ (by kernel_rfl) .i64 (Lib.nDigits u : Int) (by omega) (by rw [show Tryz.prog.arrayLen 277 = 24 by kernel_rfl]; omega)]
      rw [show Tryz.prog.arrayLen 277 = 24 by kernel_rfl, show Tryz.prog.elem 277 = 5 by kernel_rfl, show (sizeOf 5).run Tryz.prog W = .ok 1 W by kernel_rfl]
      simp [Result.andThen, slicedAt, Lib.add_plain]
    have hH0 := zero_row w 277 (Lib.nDigits u) (by omega)
    have hfmt := Tryz.internal_strconv_formatBase10 w.heap.size 0 24 u (Array.replicate (Lib.nDigits u) 0) (w.alloc (.cells Lib.zeros24 277)) hH0 (by rw [Array.size_replicate]; exact Lib.lt_pow_nDigits u) hu (by rw [Array.size_replicate]; omega)
    rw [Array.size_replicate] at hfmt
    have HH0 := Lib.hid hH0
    have HT := Lib.hid (Tryz.internal_strconv_numDigits u hu1 hu _ (Lib.tabIs_alloc hv.tab (.cells Lib.zeros24 277)))
    have HF := Lib.hid hfmt
    clear hH0 hv hfmt
    go_enter Tryz.func236, Tryz.ntmps236
    go_wp2_with (first
      | (go_at_call 169; (refine HT.out.mono ?_; rintro e w' ⟨rfl, rfl⟩))
      | (go_at_call 170; (refine HF.out.mono ?_; rintro e w' ⟨rfl, k, v', dk, rfl, hF⟩; refine Hid.out ?_)))
    have hcv : (convert 80 9 (.slice (some ⟨w.heap.size, 0, none⟩) (Lib.nDigits u) 24)).run Tryz.prog ((putRow (fun (b : UInt8) => Value.int .u8 (b.toNat : Int)) (w.alloc (.cells Lib.zeros24 277)) w.heap.size 0 dk).drewN k) = .ok (.string ⟨(Lib.decDigits u).toArray⟩) ((putRow (fun (b : UInt8) => Value.int .u8 (b.toNat : Int)) (w.alloc (.cells Lib.zeros24 277)) w.heap.size 0 dk).drewN k) := by
      have h := run_convert_bytes_back (P := Tryz.prog) ((putRow (fun (b : UInt8) => Value.int .u8 (b.toNat : Int)) (w.alloc (.cells Lib.zeros24 277)) w.heap.size 0 dk).drewN k) 80 9 5 ⟨w.heap.size, 0, none⟩ 24 (Lib.decDigits u) Tryz.underlying80 Tryz.underlying5 Tryz.underlying9 (fun j hj => by
        rw [Lib.row_is_numeral hF j hj, Lib.add_plain, World.cell?_drewN]
        exact cell?_putRow (fun (b : UInt8) => Value.int .u8 (b.toNat : Int)) _ w.heap.size 0 _ dk HH0.out (by rw [hF.size, Array.size_replicate]) j (by rw [hF.size]; rw [Lib.decDigits_length] at hj; exact hj))
      rw [Lib.decDigits_length] at h
      exact h
    clear hF
    refine Lib.hid ?_
    go_wp2_with fail
    go_ret
    exact ⟨rfl, row_below w _ dk k⟩
theorem fmtU_any (u : Nat) (hu : u < 18446744073709551616) (w : World) (hv : Vars w) : Calls Tryz.prog 235 #[.int .u64 u, .int .i64 10] w fun e w' => e = .returned (.string ⟨(Lib.decDigits u).toArray⟩) ∧ Below w.heap.size w w' := by
  have H := Lib.hid (fmtU_inner u hu w hv)
  clear hv
  go_enter Tryz.func235, Tryz.ntmps235
  go_wp2_with (go_at_call 236; (refine H.out.mono ?_; rintro e w' ⟨rfl, hb⟩))
  go_ret
  exact ⟨rfl, hb⟩

end Go.Proofs.YtgoeiflddikihaaGreatDoor.Ver
end
section
set_option linter.unusedSimpArgs false
namespace Go.Proofs.YtgoeiflddikihaaGreatDoor.Ver
open Go.RowKit Go.Proofs.YtgoeiflddikihaaGreatDoor.Dig Go.Proofs.YtgoeiflddikihaaGreatDoorW.PrintWords

/-- What every version that is read is like. -/
structure SVok (v : SV) : Prop where
  a0 : 0 ≤ v.major
  a1 : v.major < 18446744073709551616
  b0 : 0 ≤ v.minor
  b1 : v.minor < 18446744073709551616
  c0 : 0 ≤ v.patch
  c1 : v.patch < 18446744073709551616
  p : v.pre.size ≤ 4294967296
  m : v.mt.size ≤ 4294967296
def decB (n : Int) : ByteArray := ⟨(Lib.decDigits n.toNat).toArray⟩
/-- The three numbers. -/
def threeB (v : SV) : ByteArray := decB v.major ++ ⟨#[46]⟩ ++ decB v.minor ++ ⟨#[46]⟩ ++ decB v.patch
def preB (v : SV) : ByteArray := if v.pre = ⟨#[]⟩ then threeB v else threeB v ++ (⟨#[45]⟩ ++ v.pre)
def semB (v : SV) : ByteArray := if v.mt = ⟨#[]⟩ then preB v else preB v ++ (⟨#[43]⟩ ++ v.mt)
theorem decB_size (n : Int) (h0 : 0 ≤ n) (h : n < 18446744073709551616) : (decB n).size ≤ 21 := by
  show (Lib.decDigits n.toNat).toArray.size ≤ 21
  rw [List.size_toArray, Lib.decDigits_length]
  by_cases h1 : 1 ≤ n.toNat
  · have := Lib.numDigits_eq n.toNat h1 (by omega)
    split at this <;> omega
  · have : n.toNat = 0 := by omega
    rw [this, ← Lib.decDigits_length, Lib.decDigits, dif_pos (by omega)]; simp

set_option maxRecDepth 20000 in
theorem semStr_any (v : SV) (hk : SVok v) (w : World) (hv : Vars w) : Calls Tryz.prog 233 #[.agg v.cells] w fun e w' => e = .returned (.string (semB v)) ∧ Below w.heap.size w w' := by
  obtain ⟨va, vb, vc, vp, vm, vo⟩ := v
  obtain ⟨a0, a1, b0, b1, c0, c1, hp, hm⟩ := hk
  dsimp only at a0 a1 b0 b1 c0 c1 hp hm
  have w0 : Below w.heap.size w (w.alloc (.cells #[.int .u64 va, .int .u64 vb, .int .u64 vc, .string vp, .string vm, .string vo] 197)) := below_alloc (Below.refl _ _) _
  have cI : ∀ (n : Int), 0 ≤ n → n < 18446744073709551616 → ∀ d os, Calls Tryz.prog 235 #[.int .u64 n, .int .i64 10] (Sort.grow (redrawn (w.alloc (.cells #[.int .u64 va, .int .u64 vb, .int .u64 vc, .string vp, .string vm, .string vo] 197)) d) os) fun e w'' => e = .returned (.string (decB n)) ∧ ∃ p : Regrown, w'' = Sort.grow (redrawn (w.alloc (.cells #[.int .u64 va, .int .u64 vb, .int .u64 vc, .string vp, .string vm, .string vo] 197)) p.d) p.os :=
    fun n h0 h1 d os => Calls.regrown_of (by
      have h := fmtU_any n.toNat (by omega) _ ((hv.below w0).below (below_regrown _ d os))
      rw [show ((n.toNat : Nat) : Int) = n by omega] at h
      exact h)
  have CA := Lib.hid (cI va a0 a1)
  have CB := Lib.hid (cI vb b0 b1)
  have CC := Lib.hid (cI vc c0 c1)
  have la := decB_size va a0 a1
  have lb := decB_size vb b0 b1
  have lc := decB_size vc c0 c1
  have k0 := cell_regrown (blk_cell (alloc_at w (.cells #[.int .u64 va, .int .u64 vb, .int .u64 vc, .string vp, .string vm, .string vo] 197)) 0)
  have k1 := cell_regrown (blk_cell (alloc_at w (.cells #[.int .u64 va, .int .u64 vb, .int .u64 vc, .string vp, .string vm, .string vo] 197)) 1)
  have k2 := cell_regrown (blk_cell (alloc_at w (.cells #[.int .u64 va, .int .u64 vb, .int .u64 vc, .string vp, .string vm, .string vo] 197)) 2)
  have k3 := cell_regrown (blk_cell (alloc_at w (.cells #[.int .u64 va, .int .u64 vb, .int .u64 vc, .string vp, .string vm, .string vo] 197)) 3)
  have k4 := cell_regrown (blk_cell (alloc_at w (.cells #[.int .u64 va, .int .u64 vb, .int .u64 vc, .string vp, .string vm, .string vo] 197)) 4)
  have hS : semB ⟨va, vb, vc, vp, vm, vo⟩ = (if vm = ⟨#[]⟩ then (if vp = ⟨#[]⟩ then decB va ++ ⟨#[46]⟩ ++ decB vb ++ ⟨#[46]⟩ ++ decB vc else decB va ++ ⟨#[46]⟩ ++ decB vb ++ ⟨#[46]⟩ ++ decB vc ++ (⟨#[45]⟩ ++ vp)) else (if vp = ⟨#[]⟩ then decB va ++ ⟨#[46]⟩ ++ decB vb ++ ⟨#[46]⟩ ++ decB vc else decB va ++ ⟨#[46]⟩ ++ decB vb ++ ⟨#[46]⟩ ++ decB vc ++ (⟨#[45]⟩ ++ vp)) ++ (⟨#[43]⟩ ++ vm)) := rfl
  rw [hS]
  dsimp only [SV.cells]
  clear cI a0 a1 b0 b1 c0 c1 hS hv
  generalize decB va = sa at *
  generalize decB vb = sb at *
  generalize decB vc = sc at *
  go_enter Tryz.func233, Tryz.ntmps233
  have n1 : ¬ 9223372036854775807 < sa.size + 1 := by omega
  have n2 : ¬ 9223372036854775807 < sa.size + 1 + sb.size := by omega
  have n3 : ¬ 9223372036854775807 < sa.size + 1 + sb.size + 1 := by omega
  have n4 : ¬ 9223372036854775807 < sa.size + 1 + sb.size + 1 + sc.size := by omega
  go_wp2
  refine wp_region_quiet_below (by kernel_rfl) (by kernel_rfl) ?_
  repeat (quiet_step (first | exact CA.out _ _ | exact CB.out _ _ | exact CC.out _ _))
  refine wpQuiet_nil ?_
  intro _ hw'
  obtain ⟨⟨dq, osq⟩, hw''⟩ := hw'
  subst hw''
  have hsum : (sa ++ ⟨#[46]⟩ ++ sb ++ ⟨#[46]⟩ ++ sc).size ≤ 100 := by simp only [ByteArray.size_append]; have : (⟨#[46]⟩ : ByteArray).size = 1 := rfl; omega
  clear n1 n2 n3 n4
  generalize ht : sa ++ ⟨#[46]⟩ ++ sb ++ ⟨#[46]⟩ ++ sc = t3 at *
  have HT := Lib.hid ht
  clear ht
  have z3 := k3 dq osq
  have z4 := k4 dq osq
  have HBB := Aside0.mk (below_trans w0 (below_regrown _ dq osq))
  have hone : (⟨#[45]⟩ : ByteArray).size = 1 := rfl
  have hone2 : (⟨#[43]⟩ : ByteArray).size = 1 := rfl
  have m1 : ¬ 9223372036854775807 < 1 + vp.size := by omega
  have m2 : ¬ 9223372036854775807 < t3.size + (1 + vp.size) := by omega
  have m3 : ¬ 9223372036854775807 < 1 + vm.size := by omega
  have m4 : ¬ 9223372036854775807 < t3.size + (1 + vm.size) := by omega
  have m5 : ¬ 9223372036854775807 < t3.size + (1 + vp.size) + (1 + vm.size) := by omega
  clear k0 k1 k2 k3 k4 w0 CA CB CC
  by_cases hp0 : vp = ⟨#[]⟩
  · by_cases hm0 : vm = ⟨#[]⟩
    · have e1 : vp.toList.isEmpty = true := isEmpty_true (by rw [hp0]; rfl)
      have e2 : vm.toList.isEmpty = true := isEmpty_true (by rw [hm0]; rfl)
      have HM0 := Lib.hid hm0
      have HP0 := Lib.hid hp0
      clear hp0 hm0
      go_wp2
      go_ret
      refine ⟨?_, by first | exact HBB.out | exact below_trans (below_alloc (Below.refl _ _) _) (below_regrown _ _ _)⟩
      simp [HT.out, HM0.out, HP0.out]
    · have e1 : vp.toList.isEmpty = true := isEmpty_true (by rw [hp0]; rfl)
      have e2 : vm.toList.isEmpty = false := isEmpty_false (size_pos hm0)
      have HM0 := Lib.hid hm0
      have HP0 := Lib.hid hp0
      clear hp0 hm0
      go_wp2
      go_ret
      refine ⟨?_, by first | exact HBB.out | exact below_trans (below_alloc (Below.refl _ _) _) (below_regrown _ _ _)⟩
      simp [HT.out, HM0.out, HP0.out]
  · by_cases hm0 : vm = ⟨#[]⟩
    · have e1 : vp.toList.isEmpty = false := isEmpty_false (size_pos hp0)
      have e2 : vm.toList.isEmpty = true := isEmpty_true (by rw [hm0]; rfl)
      have HM0 := Lib.hid hm0
      have HP0 := Lib.hid hp0
      clear hp0 hm0
      go_wp2
      go_ret
      refine ⟨?_, by first | exact HBB.out | exact below_trans (below_alloc (Below.refl _ _) _) (below_regrown _ _ _)⟩
      simp [HT.out, HM0.out, HP0.out]
    · have e1 : vp.toList.isEmpty = false := isEmpty_false (size_pos hp0)
      have e2 : vm.toList.isEmpty = false := isEmpty_false (size_pos hm0)
      have HM0 := Lib.hid hm0
      have HP0 := Lib.hid hp0
      clear hp0 hm0
      go_wp2
      go_ret
      refine ⟨?_, by first | exact HBB.out | exact below_trans (below_alloc (Below.refl _ _) _) (below_regrown _ _ _)⟩
      simp [HT.out, HM0.out, HP0.out]

end Go.Proofs.YtgoeiflddikihaaGreatDoor.Ver
end
