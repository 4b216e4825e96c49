/- The law FnDigestRead: what is read as a digest is as the law says. -/
import Derived.Test.YtehcnjjkklogbaaDoorDigG
namespace Go.Proofs.YtehcnjjkklogbaaDoor.Dig
open Go.RowKit Go.Proofs.YtehcnjjkklogbaaDoor.PFnDigest Go.Proofs.YtehcnjjkklogbaaDoorW.PrintWords

theorem told_at {w W : World} (s : ByteArray) (hs : s.size ≤ 2147483647) (hv : Vars w) (hb : Below w.heap.size w W) : Calls Tryd.prog 6 #[.string s] W (Told (digest s.data.toList) W) := told_any s hs W (hv.below hb)

theorem read_big (s : ByteArray) (w : World) (h : 2147483647 < s.size) :
    Calls Tryd.prog 3 #[.string s] w fun e w' => e = .returned (.bool true) ∧ Below w.heap.size w w' := by
  go_enter Tryd.func3, Tryd.ntmps3
  go_wp2
  go_ret
  exact ⟨rfl, Below.refl _ _⟩
theorem read_out (s : ByteArray) (w : World) (h : s.size ≤ 2147483647) (h2 : 60 < s.size) (hv : Vars w) :
    Calls Tryd.prog 3 #[.string s] w fun e w' => e = .returned (.bool true) ∧ Below w.heap.size w w' := by
  have HV := Lib.hid hv
  clear hv
  go_enter Tryd.func3, Tryd.ntmps3
  go_wp2_with (go_at_call 5; ((with_reducible refine (awake_any _ HV.out).mono ?_); rintro e w1 ⟨rfl, hb⟩))
  go_ret
  exact ⟨rfl, hb⟩

/-- The first loop. -/
def ScanRel (l : List UInt8) (size : Nat) (v6 v7 v29 : Value) (w1 wr : World) : Prop :=
  ∃ k c a : Nat, k ≤ size ∧ c ≤ k ∧ a ≤ k ∧ v6 = .int .i64 (c : Int) ∧ v7 = .int .i64 (a : Int) ∧ v29 = .int .i64 (k : Int) ∧ scan (l.drop k) k c a = scan l 0 0 0 ∧ wr = w1
theorem scan_step {s : ByteArray} {k c a : Nat} (h : k < s.size) : scan (s.data.toList.drop k) k c a = if (s[k]).toNat = 58 then scan (s.data.toList.drop (k + 1)) (k + 1) (c + 1) k else scan (s.data.toList.drop (k + 1)) (k + 1) c a := by
  have hl : k < s.data.toList.length := by rw [Array.length_toList]; exact h
  rw [List.drop_eq_getElem_cons hl, scan]
  by_cases hk : s[k] = 58
  · rw [if_pos (by exact hk), if_pos (by rw [hk]; rfl)]
  · rw [if_neg (by exact hk), if_neg (fun e : (s[k]).toNat = 58 => hk (UInt8.toNat_inj.1 (by rw [e]; rfl)))]

theorem read_none (s : ByteArray) (w : World) (h : s.size ≤ 60) (hv : Vars w) (hd : digest s.data.toList = none) :
    Calls Tryd.prog 3 #[.string s] w fun e w' => e = .returned (.bool true) ∧ Below w.heap.size w w' := by
  have ct := told_any s (by omega) w hv
  rw [hd] at ct
  have CT := Lib.hid ct
  have CA := Lib.hid (fun W hb => awake_at (W := W) hv hb)
  clear ct hv hd
  go_enter Tryd.func3, Tryd.ntmps3
  go_wp2_with (go_at_call 6; ((with_reducible refine CT.out.mono ?_); rintro e w1 ⟨v, rfl, hr, hb⟩; clear hr; have HB := Aside0.mk hb; clear hb; dsimp only [Option.map_none, Option.getD_none, Option.isSome_none]))
  go_loopw [6, 7, 29] (fun v6 v7 v29 wr => ScanRel s.data.toList s.size v6 v7 v29 w1 wr) (fun _ _ v29 _ => s.size - (intOf v29).toNat)
  case atStart => exact ⟨0, 0, 0, by omega, by omega, by omega, rfl, rfl, rfl, rfl, rfl⟩
  case round =>
    obtain ⟨k, c, a, hk, hc, ha, rfl, rfl, rfl, hsc, rfl⟩ := hrel
    by_cases hlt : k < s.size
    · have HS := Lib.hid (hsc.symm.trans (scan_step hlt))
      clear hsc
      by_cases h58 : (s[k]).toNat = 58
      · have q : (((s[k]).toNat : Int) == 58) = true := by simp [h58]
        go_wp2
        go_roundw
        case rel => exact ⟨k + 1, c + 1, k, by omega, by omega, by omega, by simp, rfl, by simp, by have := HS.out; rw [if_pos h58] at this; exact this.symm, rfl⟩
        case measure => simp [intOf]; omega
      · have q : (((s[k]).toNat : Int) == 58) = false := by rw [beq_eq_false_iff_ne]; omega
        go_wp2
        go_roundw
        case rel => exact ⟨k + 1, c, a, by omega, by omega, by omega, rfl, rfl, by simp, by have := HS.out; rw [if_neg h58] at this; exact this.symm, rfl⟩
        case measure => simp [intOf]; omega
    · clear hsc
      go_wp2_with (go_at_call 5; ((with_reducible refine (CA.out _ HB.out).mono ?_); rintro e w8 ⟨rfl, hb⟩; have HN := Aside0.mk (below_trans HB.out hb); clear HB hb; have HB := HN; clear HN))
      go_ret
      exact ⟨rfl, HB.out⟩

/-- What is known of the arguments from the first world on. -/
structure ReadArg (s : ByteArray) (n : Int) (bs : List Int) (p : Nat) : Prop where
  seen : Seen s.data.toList n bs p
  dig : digest s.data.toList = some (n, bs)
  len : s.size ≤ 60

theorem read_again {w W : World} (n : Int) (bs : List Int) (hl : bs.length ≤ 60) (h0 : -9223372036854775808 ≤ n) (h1 : n ≤ 9223372036854775807) (hr : ∀ x ∈ bs, 0 ≤ x ∧ x ≤ 255) (hv : Vars w) (hb : Below w.heap.size w W) :
    Calls Tryd.prog 6 #[.string ⟨(wrote false n bs).toArray⟩] W (Told (some (n, bs)) W) := by
  have h := told_any ⟨(wrote false n bs).toArray⟩ ?_ W (hv.below hb)
  · rw [text_data, digest_wrote false n bs h0 h1 hr] at h
    exact h
  · rw [text_size]
    unfold wrote
    have h3 := Lib.itoa_length_le n (by omega) (by omega)
    have h2 := hexL_length false bs
    simp
    omega
theorem hex_at (cap : Bool) (x : Int) (hx : 0 ≤ x ∧ x ≤ 255) (A : Option Addr) (c : Nat) (W : World) (hC : (Kd.int .u8).C W A 1 [x]) (hc : 1 ≤ c) :
    Calls Tryd.prog 8 #[.slice A 1 c, .bool cap] W fun e w' => e = .returned (.string ⟨(hexL cap [x]).toArray⟩) ∧ Below W.heap.size W w' :=
  spec_DepHex.calls _ A c [x] cap _ W hC hc (depHex_f cap [x] (by simp) (fun y hy => by rw [List.mem_singleton] at hy; rw [hy]; exact hx))
theorem mixed_at (c d : UInt8) (h : Mix c d) (W : World) : Calls Tryd.prog 9 #[.string ⟨#[c, d]⟩] W fun e w' => e = .returned (.bool true) ∧ ∃ n, w' = W.drewN n :=
  (laws_isMixed.calls _ true W (mixed_told c d h)).mono fun _ _ ⟨h, hd⟩ => ⟨h, hd.out⟩

theorem text_ne {a b : ByteArray} (h : a ≠ b) : (!a.toList == b.toList) = true := by
  rw [Bool.not_eq_true', beq_eq_false_iff_ne]
  intro e
  rw [ByteArray.toList_eq, ByteArray.toList_eq] at e
  exact h (ByteArray.ext (Array.ext' e))
theorem text_eq {a b : ByteArray} (h : a = b) : (!a.toList == b.toList) = false := by rw [h]; simp
theorem three (c d : UInt8) (hc : hexD c.toNat ≤ 15) (hd : hexD d.toNat ≤ 15) (x : Int) (hx : x = ((16 * hexD c.toNat + hexD d.toNat : Nat) : Int)) :
    (⟨#[c, d]⟩ : ByteArray) = ⟨(hexL false [x]).toArray⟩ ∨ ((⟨#[c, d]⟩ : ByteArray) ≠ ⟨(hexL false [x]).toArray⟩ ∧ (⟨#[c, d]⟩ : ByteArray) = ⟨(hexL true [x]).toArray⟩) ∨
      ((⟨#[c, d]⟩ : ByteArray) ≠ ⟨(hexL false [x]).toArray⟩ ∧ (⟨#[c, d]⟩ : ByteArray) ≠ ⟨(hexL true [x]).toArray⟩ ∧ Mix c d) := by
  subst hx
  by_cases e0 : (⟨#[c, d]⟩ : ByteArray) = ⟨(hexL false [((16 * hexD c.toNat + hexD d.toNat : Nat) : Int)]).toArray⟩
  · exact .inl e0
  by_cases e1 : (⟨#[c, d]⟩ : ByteArray) = ⟨(hexL true [((16 * hexD c.toNat + hexD d.toNat : Nat) : Int)]).toArray⟩
  · exact .inr (.inl ⟨e0, e1⟩)
  refine .inr (.inr ⟨e0, e1, ?_⟩)
  rcases pair_law c d hc hd with h | h | h
  · exact absurd (by rw [← h]) e0
  · exact absurd (by rw [← h]) e1
  · exact h
theorem info_u8 : ∃ i, Tryd.prog.info? 5 = some i ∧ i.size = 1 := by
  obtain ⟨i, h, e⟩ := Option.map_eq_some_iff.1 info5
  exact ⟨i, h, by injection e with _ e; injection e⟩

theorem read_some (s : ByteArray) (w : World) (h : s.size ≤ 60) (hv : Vars w) (n : Int) (bs : List Int) (p : Nat) (hd : digest s.data.toList = some (n, bs)) (hse : Seen s.data.toList n bs p) :
    Calls Tryd.prog 3 #[.string s] w fun e w' => e = .returned (.bool true) ∧ Below w.heap.size w w' := by
  have ct := told_any s (by omega) w hv
  rw [hd] at ct
  have hlen : s.size = p + 1 + 2 * bs.length := hse.len
  have CT := Lib.hid ct
  have CX := Lib.hid (fun W A c (hr : (Kd.int .u8).C W A bs.length bs) hb hc => text_any n hse.lo hse.hi bs (by omega) hse.rng A c W (hv.below hb) hr hc)
  have CR := Lib.hid (fun W hb => read_again (W := W) n bs (by omega) hse.lo hse.hi hse.rng hv hb)
  have CA := Lib.hid (fun W hb => awake_at (W := W) hv hb)
  have SE := Lib.hid hse
  clear ct hv hd hse
  generalize (⟨(wrote false n bs).toArray⟩ : ByteArray) = t0 at *
  go_enter Tryd.func3, Tryd.ntmps3
  go_wp2_with (go_at_call 6; ((with_reducible refine CT.out.mono ?_); rintro e w1 ⟨v, rfl, hr, hb⟩; have HB := Aside0.mk hb; have HR : Aside0 ((Kd.int .u8).R 5 w1 w.heap.size (fun _ => True) v bs) := Aside0.mk hr; clear hr hb; dsimp only [Option.map_some, Option.getD_some, Option.isSome_some]))
  go_loopw [6, 7, 29] (fun v6 v7 v29 wr => ScanRel s.data.toList s.size v6 v7 v29 w1 wr) (fun _ _ v29 _ => s.size - (intOf v29).toNat)
  case atStart => exact ⟨0, 0, 0, by omega, by omega, by omega, rfl, rfl, rfl, rfl, rfl⟩
  case round =>
    obtain ⟨k, c, a, hk, hc, ha, rfl, rfl, rfl, hsc, rfl⟩ := hrel
    by_cases hlt : k < s.size
    · have HS := Lib.hid (hsc.symm.trans (scan_step hlt))
      clear hsc
      by_cases h58 : (s[k]).toNat = 58
      · have q : (((s[k]).toNat : Int) == 58) = true := by simp [h58]
        go_wp2
        go_roundw
        case rel => exact ⟨k + 1, c + 1, k, by omega, by omega, by omega, by simp, rfl, by simp, by have := HS.out; rw [if_pos h58] at this; exact this.symm, rfl⟩
        case measure => simp [intOf]; omega
      · have q : (((s[k]).toNat : Int) == 58) = false := by rw [beq_eq_false_iff_ne]; omega
        go_wp2
        go_roundw
        case rel => exact ⟨k + 1, c, a, by omega, by omega, by omega, rfl, rfl, by simp, by have := HS.out; rw [if_neg h58] at this; exact this.symm, rfl⟩
        case measure => simp [intOf]; omega
    · have hks : k = s.size := by omega
      have e1 : (c, a) = (1, p) := by
        rw [← SE.out.col, ← hsc, hks, List.drop_eq_nil_of_le (by rw [Array.length_toList]; exact Nat.le_refl _)]
        rfl
      injection e1 with e1 e2
      subst e1 e2
      clear hsc
      obtain ⟨vA, vc, hvs⟩ := Kd.R_slice HR.out
      subst hvs
      have HC := Aside0.mk (Kd.R_reads' HR.out)
      clear HR
      go_wp2_with (first
        | (go_at_call 7; ((with_reducible refine (CX.out _ _ _ HC.out.2.2 HB.out HC.out.2.1).mono ?_); rintro e w2 ⟨rfl, hb2⟩; have HB2 := Aside0.mk (below_trans HB.out hb2); have HK2 := Aside0.mk hb2; clear hb2))
        | (go_at_call 6; ((with_reducible refine (CR.out _ HB2.out).mono ?_); rintro e w3 ⟨v, rfl, hr3, hb3⟩; dsimp only [Option.map_some, Option.getD_some, Option.isSome_some]; refine Hid.out ?_)))
      have HR3 : Aside0 ((Kd.int .u8).R 5 w3 w2.heap.size (fun _ => True) v bs) := Aside0.mk hr3
      obtain ⟨vB, vd, hvs⟩ := Kd.R_slice HR3.out
      subst hvs
      have HD := Aside0.mk (Kd.R_reads' HR3.out)
      have HB3 := Aside0.mk (below_trans HB2.out hb3)
      have HC3 := Aside0.mk (Kd.C_below (Kd.C_below HC.out.2.2 HK2.out) hb3)
      have HLE := Aside0.mk HC.out.2.1
      have hv1 := Kd.C_string (c := vd) Tryd.underlying23 Tryd.underlying5 Tryd.underlying9 HD.out.2.2
      have hv2 := Kd.C_string (c := vc) Tryd.underlying23 Tryd.underlying5 Tryd.underlying9 HC3.out
      clear hr3 hb3 HR3 HD HC HB HB2 HK2
      have qlen : ((a : Int) + 1 + 2 * (bs.length : Int) - (a : Int) - 1 != 2 * (bs.length : Int)) = false := by rw [bne_eq_false_iff_eq]; omega
      refine Lib.hid ?_
      go_wp2
      clear qlen
      go_loopw [82] (fun v82 wr2 => ∃ i : Nat, i ≤ bs.length ∧ v82 = .int .i64 (i : Int) ∧ Aside0 (Below w3.heap.size w3 wr2)) (fun v _ => bs.length - (intOf v).toNat)
      case atStart => exact ⟨0, by omega, rfl, ⟨by repeat (first | exact Below.refl _ _ | apply below_alloc | apply pw_below_drewN)⟩⟩
      case round =>
        obtain ⟨i, hi, rfl, HW⟩ := hrel
        by_cases hlt2 : i < bs.length
        · obtain ⟨x, c, d, h1, h2, h3, h4, h5, hx⟩ : ∃ x c d, s.data.toList[a + 1 + 2 * i]? = some c ∧ s.data.toList[a + 1 + 2 * i + 1]? = some d ∧ bs[i]? = some x ∧ hexD c.toNat ≤ 15 ∧ hexD d.toNat ≤ 15 ∧ x = ((16 * hexD c.toNat + hexD d.toNat : Nat) : Int) := by
            obtain ⟨c, d, h1, h2, h3, h4, h5⟩ := SE.out.pair i hlt2
            exact ⟨_, c, d, h1, h2, h3, h4, h5, rfl⟩
          have hxr : 0 ≤ x ∧ x ≤ 255 := by omega
          have ex := extract_two h1 h2
          have h3c := three c d h4 h5 x hx
          obtain ⟨inf, hinf, hinfs⟩ := info_u8
          obtain ⟨A', hsl, hrd, hle⟩ := print_mid_int (P := Tryd.prog) (k := .u8) 23 5 Tryd.underlying23 hinf hinfs vA vc bs (i : Int) ((i : Int) + 1) (by omega) (by omega) (by omega) HLE.out
          rw [show ((i : Int) + 1).toNat = i + 1 by omega, show (i : Int).toNat = i by omega, take_one h3] at hsl hrd hle
          rw [List.length_singleton] at hsl hrd hle
          have hC : ∀ W, Below w3.heap.size w3 W → (Kd.int .u8).C W A' 1 [x] := fun W hb => Kd.C_of_reads (d := (0 : Int)) (h1 := fun _ => rfl) (hrd W (Kd.reads_of_C (Kd.C_below HC3.out hb)))
          have c0 : ∀ W, Below w3.heap.size w3 W → Calls Tryd.prog 8 #[.slice A' 1 (vc - i), .bool false] W fun e w' => e = .returned (.string ⟨(hexL false [x]).toArray⟩) ∧ Below W.heap.size W w' := fun W hb => hex_at false x hxr A' _ W (hC W hb) hle
          have c1 : ∀ W, Below w3.heap.size w3 W → Calls Tryd.prog 8 #[.slice A' 1 (vc - i), .bool true] W fun e w' => e = .returned (.string ⟨(hexL true [x]).toArray⟩) ∧ Below W.heap.size W w' := fun W hb => hex_at true x hxr A' _ W (hC W hb) hle
          have cM := mixed_at c d
          have hsp : ∀ W : World, (Instr.slice 9 (.string s) (some (.int .i64 ((a : Int) + 1 + 2 * (i : Int)))) (some (.int .i64 ((a : Int) + 3 + 2 * (i : Int)))) none).run Tryd.prog W = .ok (.string ⟨#[c, d]⟩) W := fun W => by
            rw [run_slice_string W 9 s .i64 .i64 _ _ Tryd.underlying9 (by omega) (by omega) (by omega), show ((a : Int) + 1 + 2 * (i : Int)).toNat = a + 1 + 2 * i by omega, show ((a : Int) + 3 + 2 * (i : Int)).toNat = a + 1 + 2 * i + 2 by omega, ex]
          have C0 := Lib.hid c0
          have C1 := Lib.hid c1
          have CM := Lib.hid cM
          have EX := Lib.hid ex
          have H3 := Lib.hid h3c
          generalize (⟨(hexL false [x]).toArray⟩ : ByteArray) = t1 at *
          generalize (⟨(hexL true [x]).toArray⟩ : ByteArray) = t2 at *
          generalize (⟨#[c, d]⟩ : ByteArray) = pr at *
          have hsl' : ∀ W : World, (Instr.slice 23 (.slice vA bs.length vc) (some (.int .i64 (i : Int))) (some (.int .i64 ((i : Int) + 1))) none).run Tryd.prog W = .ok (.slice A' 1 (vc - i)) W := hsl
          clear c0 c1 cM h1 h2 h3 h4 h5 hx hrd hle hC h3c ex hinf hinfs hsl
          rcases H3.out with e0 | ⟨e0, e1⟩ | ⟨e0, e1, hmix⟩
          · have q0 := text_eq e0
            clear e0 H3
            go_wp2_with (first
              | (go_at_call 8; ((with_reducible refine (C0.out _ HW.out).mono ?_); rintro e w5 ⟨rfl, hb5⟩; have HN := Aside0.mk (below_trans HW.out hb5); clear HW hb5; have HW := HN; clear HN)))
            go_roundw
            case rel => exact ⟨i + 1, by omega, by simp, ⟨by repeat (first | exact HW.out | apply below_alloc | apply pw_below_drewN)⟩⟩
            case measure => simp [intOf]; omega
          · have q0 := text_ne e0
            have q1 := text_eq e1
            clear e0 e1 H3
            go_wp2_with (first
              | (go_at_call 8; ((with_reducible refine (C0.out _ HW.out).mono ?_); rintro e w5 ⟨rfl, hb5⟩; have HN := Aside0.mk (below_trans HW.out hb5); clear HW hb5; have HW := HN; clear HN))
              | (go_at_call 8; ((with_reducible refine (C1.out _ HW.out).mono ?_); rintro e w5 ⟨rfl, hb5⟩; have HN := Aside0.mk (below_trans HW.out hb5); clear HW hb5; have HW := HN; clear HN)))
            go_roundw
            case rel => exact ⟨i + 1, by omega, by simp, ⟨by repeat (first | exact HW.out | apply below_alloc | apply pw_below_drewN)⟩⟩
            case measure => simp [intOf]; omega
          · have q0 := text_ne e0
            have q1 := text_ne e1
            clear e0 e1 H3
            go_wp2_with (first
              | (go_at_call 8; ((with_reducible refine (C0.out _ HW.out).mono ?_); rintro e w5 ⟨rfl, hb5⟩; have HN := Aside0.mk (below_trans HW.out hb5); clear HW hb5; have HW := HN; clear HN))
              | (go_at_call 8; ((with_reducible refine (C1.out _ HW.out).mono ?_); rintro e w5 ⟨rfl, hb5⟩; have HN := Aside0.mk (below_trans HW.out hb5); clear HW hb5; have HW := HN; clear HN))
              | (go_at_call 9; ((with_reducible refine (CM.out hmix _).mono ?_); rintro e w5 ⟨rfl, nd, rfl⟩; have HN := Aside0.mk (pw_below_drewN HW.out nd); clear HW; have HW := HN; clear HN)))
            go_roundw
            case rel => exact ⟨i + 1, by omega, by simp, ⟨by repeat (first | exact HW.out | apply below_alloc | apply pw_below_drewN)⟩⟩
            case measure => simp [intOf]; omega
        · go_wp2_with (go_at_call 5; ((with_reducible refine (CA.out _ (below_trans HB3.out HW.out)).mono ?_); rintro e w8 ⟨rfl, hb⟩; have HN := Aside0.mk (below_trans (below_trans HB3.out HW.out) hb); clear HW hb; have HW := HN; clear HN))
          go_ret
          exact ⟨rfl, HW.out⟩

theorem read_law (s : ByteArray) (w : World) (_hs : s.size ≤ 140737488351232) (hv : Vars w) :
    Calls Tryd.prog 3 #[.string s] w fun e w' => e = .returned (.bool true) ∧ Below w.heap.size w w' := by
  by_cases h1 : 2147483647 < s.size
  · exact read_big s w h1
  by_cases h2 : 60 < s.size
  · exact read_out s w (by omega) h2 hv
  rcases hd : digest s.data.toList with _ | ⟨n, bs⟩
  · exact read_none s w (by omega) hv hd
  · obtain ⟨p, hp⟩ := seen hd
    exact read_some s w (by omega) hv n bs p hd hp

end Go.Proofs.YtehcnjjkklogbaaDoor.Dig
