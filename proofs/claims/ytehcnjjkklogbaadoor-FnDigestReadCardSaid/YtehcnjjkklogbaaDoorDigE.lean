/- The law FnDigest: what is written is read again, in capital digits, too. -/
import Derived.Test.YtehcnjjkklogbaaDoorDigD
namespace Go.Proofs.YtehcnjjkklogbaaDoor.Dig
open Go.RowKit Go.Proofs.YtehcnjjkklogbaaDoor.PFnDigest Go.Proofs.YtehcnjjkklogbaaDoorW.PrintWords

/-- What is known of the arguments from the first world on. -/
structure DigArg (w : World) (n : Int) (l : List Int) (A : Option Addr) (c : Nat) : Prop where
  lo : -1000000000 ≤ n
  hi : n ≤ 1000000000
  len : l.length ≤ 100
  rng : ∀ x ∈ l, 0 ≤ x ∧ x ≤ 255
  row : (Kd.int .u8).C w A l.length l
  cap : l.length ≤ c
  vars : Vars w

theorem awake_at {w W : World} (hv : Vars w) (hb : Below w.heap.size w W) : Calls Tryd.prog 5 #[] W fun e w' => e = .returned (.bool true) ∧ Below W.heap.size W w' := awake_any W (hv.below hb)
theorem text_at {w W : World} {n : Int} {l : List Int} {A : Option Addr} {c : Nat} (h : DigArg w n l A c) (hb : Below w.heap.size w W) :
    Calls Tryd.prog 7 #[.int .i64 n, .slice A l.length c] W fun e w' => e = .returned (.string ⟨(wrote false n l).toArray⟩) ∧ Below W.heap.size W w' :=
  text_any n (by have := h.lo; omega) (by have := h.hi; omega) l (by have := h.len; omega) h.rng A c W (h.vars.below hb) (Kd.C_below h.row hb) h.cap
theorem dec_at {w W : World} {n : Int} {l : List Int} {A : Option Addr} {c : Nat} (h : DigArg w n l A c) :
    Calls Tryd.prog 10 #[.int .i64 n] W fun e w' => e = .returned (.string ⟨(Lib.itoa n).toArray⟩) ∧ Below W.heap.size W w' :=
  spec_DepDecimal.calls 12 n _ W (dep_itoa n h.lo h.hi)
theorem dhex_at (cap : Bool) {w W : World} {n : Int} {l : List Int} {A : Option Addr} {c : Nat} (h : DigArg w n l A c) (hb : Below w.heap.size w W) :
    Calls Tryd.prog 8 #[.slice A l.length c, .bool cap] W fun e w' => e = .returned (.string ⟨(hexL cap l).toArray⟩) ∧ Below W.heap.size W w' :=
  spec_DepHex.calls _ A c l cap _ W (Kd.C_below h.row hb) h.cap (depHex_f cap l (by have := h.len; omega) h.rng)
def isNil (n : Int) (l : List Int) : Bool := n == 0 && (l.length : Int) == 0
theorem empty_at {w W : World} {n : Int} {l : List Int} {A : Option Addr} {c : Nat} (h : DigArg w n l A c) (hb : Below w.heap.size w W) :
    Calls Tryd.prog 11 #[.int .i64 n, .slice A l.length c] W fun e w' => e = .returned (.bool (isNil n l)) ∧ Below W.heap.size W w' :=
  impl_IsDigestEmpty.calls n A c l (isNil n l) W (Kd.C_below h.row hb) h.cap (by
    unfold impl_IsDigestEmpty.f verify_VersionedDigest_IsEmpty.f isNil
    by_cases hn : n = 0 <;> simp [hn])
theorem wrote_size (cap : Bool) {w : World} {n : Int} {l : List Int} {A : Option Addr} {c : Nat} (h : DigArg w n l A c) : (⟨(wrote cap n l).toArray⟩ : ByteArray).size ≤ 300 := by
  rw [text_size]
  unfold wrote
  have h1 := Lib.itoa_length_le n (by have := h.lo; omega) (by have := h.hi; omega)
  have h2 := hexL_length cap l
  have h3 := h.len
  simp
  omega
theorem read_at (cap : Bool) {w W : World} {n : Int} {l : List Int} {A : Option Addr} {c : Nat} (h : DigArg w n l A c) (hb : Below w.heap.size w W) :
    Calls Tryd.prog 6 #[.string ⟨(wrote cap n l).toArray⟩] W fun e w' => ∃ vA vc, e = .returned (.tuple #[.int .i64 n, .slice vA l.length vc, .bool true]) ∧ (Kd.int .u8).C w' vA l.length l ∧ Below W.heap.size W w' := by
  have := told_any ⟨(wrote cap n l).toArray⟩ (by have := wrote_size cap h; omega) W (h.vars.below hb)
  rw [text_data, digest_wrote cap n l (by have := h.lo; omega) (by have := h.hi; omega) h.rng] at this
  refine this.mono ?_
  rintro e w' ⟨v, rfl, hr, hb⟩
  obtain ⟨vA, vc, rfl, _, hC⟩ := Kd.R_reads hr
  exact ⟨vA, vc, rfl, hC, hb⟩
theorem wrote_text (cap : Bool) (n : Int) (l : List Int) : (⟨(Lib.itoa n).toArray⟩ : ByteArray) ++ ⟨#[58]⟩ ++ ⟨(hexL cap l).toArray⟩ = ⟨(wrote cap n l).toArray⟩ := by
  rw [show (⟨#[58]⟩ : ByteArray) = ⟨([58] : List UInt8).toArray⟩ from rfl, append_lists, append_lists]; simp [wrote]

theorem law_big (n : Int) (l : List Int) (A : Option Addr) (c : Nat) (w : World) (h : 2147483647 < l.length) :
    Calls Tryd.prog 4 #[.int .i64 n, .slice A l.length c] w fun e w' => e = .returned (.bool true) ∧ Below w.heap.size w w' := by
  go_enter Tryd.func4, Tryd.ntmps4
  go_wp2
  go_ret
  exact ⟨rfl, Below.refl _ _⟩
theorem law_out (n : Int) (l : List Int) (A : Option Addr) (c : Nat) (w : World) (hv : Vars w) (h : l.length ≤ 2147483647) (ho : n < -1000000000 ∨ 1000000000 < n ∨ 100 < l.length) :
    Calls Tryd.prog 4 #[.int .i64 n, .slice A l.length c] w fun e w' => e = .returned (.bool true) ∧ Below w.heap.size w w' := by
  have HV := Lib.hid hv
  clear hv
  by_cases h1 : n < -1000000000
  · clear ho
    go_enter Tryd.func4, Tryd.ntmps4
    go_wp2_with (go_at_call 5; ((with_reducible refine (awake_any _ HV.out).mono ?_); rintro e w1 ⟨rfl, hb⟩))
    go_ret
    exact ⟨rfl, hb⟩
  · by_cases h2 : 1000000000 < n
    · clear ho
      go_enter Tryd.func4, Tryd.ntmps4
      go_wp2_with (go_at_call 5; ((with_reducible refine (awake_any _ HV.out).mono ?_); rintro e w1 ⟨rfl, hb⟩))
      go_ret
      exact ⟨rfl, hb⟩
    · have h3 : 100 < l.length := by omega
      clear ho
      go_enter Tryd.func4, Tryd.ntmps4
      go_wp2_with (go_at_call 5; ((with_reducible refine (awake_any _ HV.out).mono ?_); rintro e w1 ⟨rfl, hb⟩))
      go_ret
      exact ⟨rfl, hb⟩

theorem law_in (n : Int) (l : List Int) (A : Option Addr) (c : Nat) (w : World) (h : DigArg w n l A c) :
    Calls Tryd.prog 4 #[.int .i64 n, .slice A l.length c] w fun e w' => e = .returned (.bool true) ∧ Below w.heap.size w w' := by
  have hlo := h.lo
  have hhi := h.hi
  have hln := h.len
  have hbig : ¬ (l.length : Int) > 2147483647 := by omega
  have sI : (⟨(Lib.itoa n).toArray⟩ : ByteArray).size ≤ 21 := by rw [text_size]; exact Lib.itoa_length_le n (by omega) (by omega)
  have sH0 : (⟨(hexL false l).toArray⟩ : ByteArray).size ≤ 200 := by rw [text_size, hexL_length]; omega
  have sH1 : (⟨(hexL true l).toArray⟩ : ByteArray).size ≤ 200 := by rw [text_size, hexL_length]; omega
  have hw0 := wrote_text false n l
  have hw1 := wrote_text true n l
  have cT := fun W hb => text_at (W := W) h hb
  have cD := fun W => dec_at (W := W) h
  have cH0 := fun W hb => dhex_at false (W := W) h hb
  have cH1 := fun W hb => dhex_at true (W := W) h hb
  have cR0 := fun W hb => read_at false (W := W) h hb
  have cR1 := fun W hb => read_at true (W := W) h hb
  have cE := fun W hb => empty_at (W := W) h hb
  have cA := fun W hb => awake_at (W := W) h.vars hb
  generalize (⟨(Lib.itoa n).toArray⟩ : ByteArray) = s1 at *
  generalize (⟨(hexL false l).toArray⟩ : ByteArray) = h0 at *
  generalize (⟨(hexL true l).toArray⟩ : ByteArray) = h1 at *
  generalize (⟨(wrote false n l).toArray⟩ : ByteArray) = t0 at *
  generalize (⟨(wrote true n l).toArray⟩ : ByteArray) = t1 at *
  have q0 : (!t0.toList == (s1 ++ ⟨#[58]⟩ ++ h0).toList) = false := by rw [hw0]; simp
  rw [← hw1] at cR1
  have CT := Lib.hid cT
  have CD := Lib.hid cD
  have CH0 := Lib.hid cH0
  have CH1 := Lib.hid cH1
  have CR0 := Lib.hid cR0
  have CR1 := Lib.hid cR1
  have CE := Lib.hid cE
  have CA := Lib.hid cA
  have HA := Lib.hid h
  have n1 : ¬ 9223372036854775807 < s1.size + 1 := by omega
  have n2 : ¬ 9223372036854775807 < s1.size + 1 + h0.size := by omega
  have n3 : ¬ 9223372036854775807 < s1.size + 1 + h1.size := by omega
  have HB := Aside0.mk (Below.refl w.heap.size w)
  clear h hw0 hw1 cT cD cH0 cH1 cR0 cR1 cE cA
  go_enter Tryd.func4, Tryd.ntmps4
  go_wp2_with (first
    | (go_at_call 7; ((with_reducible refine (CT.out _ (by repeat (first | exact HB.out | apply below_alloc | apply pw_below_drewN))).mono ?_); rintro e w9 ⟨rfl, hb⟩; have HN := Aside0.mk (below_trans (by repeat (first | exact HB.out | apply below_alloc | apply pw_below_drewN)) hb); clear HB hb; have HB := HN; clear HN))
    | (go_at_call 10; ((with_reducible refine (CD.out _).mono ?_); rintro e w9 ⟨rfl, hb⟩; have HN := Aside0.mk (below_trans (by repeat (first | exact HB.out | apply below_alloc | apply pw_below_drewN)) hb); clear HB hb; have HB := HN; clear HN))
    | (go_at_call 8; ((with_reducible refine (CH0.out _ (by repeat (first | exact HB.out | apply below_alloc | apply pw_below_drewN))).mono ?_); rintro e w9 ⟨rfl, hb⟩; have HN := Aside0.mk (below_trans (by repeat (first | exact HB.out | apply below_alloc | apply pw_below_drewN)) hb); clear HB hb; have HB := HN; clear HN))
    | (go_at_call 8; ((with_reducible refine (CH1.out _ (by repeat (first | exact HB.out | apply below_alloc | apply pw_below_drewN))).mono ?_); rintro e w9 ⟨rfl, hb⟩; have HN := Aside0.mk (below_trans (by repeat (first | exact HB.out | apply below_alloc | apply pw_below_drewN)) hb); clear HB hb; have HB := HN; clear HN)))
  go_loopw [46] (fun v wr => ∃ k : Nat, k ≤ 2 ∧ v = .int .i64 (k : Int) ∧ Aside0 (Below w.heap.size w wr) ∧ Aside0 (wr.heap[w9.heap.size]? = some (.cells #[.string t0, .string (s1 ++ ⟨#[58]⟩ ++ h1)] 9 (0, 0)))) (fun v _ => 2 - (intOf v).toNat)
  case atStart => exact ⟨0, by omega, rfl, ⟨by repeat (first | exact HB.out | apply below_alloc)⟩, ⟨alloc_at _ _⟩⟩
  case round =>
    clear HB
    obtain ⟨k, hk, rfl, HB, HG⟩ := hrel
    have hg := HG.out
    have hcl := blk_two hg
    obtain ⟨hc0, hc1, _, _⟩ := hcl
    have hk3 : k = 0 ∨ k = 1 ∨ k = 2 := by omega
    clear hg hk
    rcases hk3 with rfl | rfl | rfl
    · go_wp2_with (first
        | (go_at_call 6; ((with_reducible refine (CR0.out _ HB.out).mono ?_); rintro e w2 ⟨vA, vc, rfl, hC, hb⟩; refine Hid.out ?_)))
      have HBN := Aside0.mk (below_trans HB.out hb)
      have HGN := Aside0.mk (blk_kept HG.out hb)
      have hv1 := Kd.C_string (c := vc) Tryd.underlying23 Tryd.underlying5 Tryd.underlying9 hC
      have hv2 := Kd.C_string (c := c) Tryd.underlying23 Tryd.underlying5 Tryd.underlying9 (Kd.C_below HA.out.row HBN.out)
      clear hC hb HB HG hc0 hc1
      refine Lib.hid ?_
      go_wp2
      go_roundw
      case rel => exact ⟨1, by omega, rfl, HBN, HGN⟩
      case measure => simp [intOf]
    · go_wp2_with (first
        | (go_at_call 6; ((with_reducible refine (CR1.out _ HB.out).mono ?_); rintro e w2 ⟨vA, vc, rfl, hC, hb⟩; refine Hid.out ?_)))
      have HBN := Aside0.mk (below_trans HB.out hb)
      have HGN := Aside0.mk (blk_kept HG.out hb)
      have hv1 := Kd.C_string (c := vc) Tryd.underlying23 Tryd.underlying5 Tryd.underlying9 hC
      have hv2 := Kd.C_string (c := c) Tryd.underlying23 Tryd.underlying5 Tryd.underlying9 (Kd.C_below HA.out.row HBN.out)
      clear hC hb HB HG hc0 hc1
      refine Lib.hid ?_
      go_wp2
      go_roundw
      case rel => exact ⟨2, by omega, rfl, HBN, HGN⟩
      case measure => simp [intOf]
    · clear hc0 hc1 HG
      by_cases hn : n = 0
      · by_cases hl0 : (l.length : Int) = 0
        · have q1 : (n == 0) = true := by simp [hn]
          have q2 : ((l.length : Int) == 0) = true := beq_iff_eq.mpr hl0
          have hE : isNil n l = true := by unfold isNil; rw [q1, q2]; rfl
          clear hn hl0
          have ce := CE.out
          rw [hE] at ce
          have CE2 := Lib.hid ce
          clear ce CE hE
          go_wp2_with (first
            | (go_at_call 11; ((with_reducible refine (CE2.out _ HB.out).mono ?_); rintro e w8 ⟨rfl, hb⟩; have HN := Aside0.mk (below_trans HB.out hb); clear HB hb; have HB := HN; clear HN))
            | (go_at_call 5; ((with_reducible refine (CA.out _ HB.out).mono ?_); rintro e w8 ⟨rfl, hb⟩; have HN := Aside0.mk (below_trans HB.out hb); clear HB hb; have HB := HN; clear HN)))
          go_ret
          exact ⟨rfl, HB.out⟩
        · have q1 : (n == 0) = true := by simp [hn]
          have q2 : ((l.length : Int) == 0) = false := beq_eq_false_iff_ne.mpr hl0
          have hE : isNil n l = false := by unfold isNil; rw [q1, q2]; rfl
          clear hn hl0
          have ce := CE.out
          rw [hE] at ce
          have CE2 := Lib.hid ce
          clear ce CE hE
          go_wp2_with (first
            | (go_at_call 11; ((with_reducible refine (CE2.out _ HB.out).mono ?_); rintro e w8 ⟨rfl, hb⟩; have HN := Aside0.mk (below_trans HB.out hb); clear HB hb; have HB := HN; clear HN))
            | (go_at_call 5; ((with_reducible refine (CA.out _ HB.out).mono ?_); rintro e w8 ⟨rfl, hb⟩; have HN := Aside0.mk (below_trans HB.out hb); clear HB hb; have HB := HN; clear HN)))
          go_ret
          exact ⟨rfl, HB.out⟩
      · have hE : isNil n l = false := by simp [isNil, hn]
        have q1 : (n == 0) = false := by simp [hn]
        clear hn
        have ce := CE.out
        rw [hE] at ce
        have CE2 := Lib.hid ce
        clear ce CE hE
        go_wp2_with (first
          | (go_at_call 11; ((with_reducible refine (CE2.out _ HB.out).mono ?_); rintro e w8 ⟨rfl, hb⟩; have HN := Aside0.mk (below_trans HB.out hb); clear HB hb; have HB := HN; clear HN))
          | (go_at_call 5; ((with_reducible refine (CA.out _ HB.out).mono ?_); rintro e w8 ⟨rfl, hb⟩; have HN := Aside0.mk (below_trans HB.out hb); clear HB hb; have HB := HN; clear HN)))
        go_ret
        exact ⟨rfl, HB.out⟩

theorem law_any (n : Int) (l : List Int) (w : World) (_wf : (Lit.int .i64 n).wf = true) (A : Option Addr) (c : Nat) (hC : (Kd.int .u8).C w A l.length l) (hcap : l.length ≤ c) (hr : ∀ x ∈ l, (Lit.int .u8 x).wf = true) (hv : Vars w) :
    Calls Tryd.prog 4 #[.int .i64 n, .slice A l.length c] w fun e w' => e = .returned (.bool true) ∧ Below w.heap.size w w' := by
  by_cases h1 : 2147483647 < l.length
  · exact law_big n l A c w h1
  by_cases h2 : n < -1000000000 ∨ 1000000000 < n ∨ 100 < l.length
  · exact law_out n l A c w hv (by omega) h2
  refine law_in n l A c w ⟨by omega, by omega, by omega, fun x hx => ?_, hC, hcap, hv⟩
  have := hr x hx
  simp [Lit.wf, IntKind.min, IntKind.max, IntKind.signed, IntKind.bits] at this
  omega

end Go.Proofs.YtehcnjjkklogbaaDoor.Dig
