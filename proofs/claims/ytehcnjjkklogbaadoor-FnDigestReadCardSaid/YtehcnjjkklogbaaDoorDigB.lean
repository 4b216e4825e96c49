/- zzBytes: what it reads of hexadecimal digits. No condition but the text's size. -/
import Derived.Test.YtehcnjjkklogbaaDoorDigA
import Derived.BigQuiet
namespace Go.Proofs.YtehcnjjkklogbaaDoor.Dig
open Go.RowKit Go.Proofs.YtehcnjjkklogbaaDoor.PFnDigest Go.Proofs.YtehcnjjkklogbaaDoorW.PrintWords

/-- The amount of a hexadecimal digit; 16: it is none. -/
def hexD (c : Nat) : Nat := if 48 ≤ c ∧ c ≤ 57 then c - 48 else if 97 ≤ c ∧ c ≤ 102 then c - 87 else if 65 ≤ c ∧ c ≤ 70 then c - 55 else 16
theorem hexD_le (c : Nat) : hexD c ≤ 16 := by unfold hexD; repeat' split
                                              all_goals omega
/-- What pairs of hexadecimal digits say. -/
def unhex : List UInt8 → Option (List Int)
  | [] => some []
  | [_] => none
  | a :: b :: r => if hexD a.toNat ≤ 15 ∧ hexD b.toNat ≤ 15 then (unhex r).map fun l => ((16 * hexD a.toNat + hexD b.toNat : Nat) : Int) :: l else none

theorem digit_all : ∀ c : Fin 256, verify_zzDigit.f 3 ((c.val : Nat) : Int) = some ((hexD c.val : Nat) : Int) := by decide +kernel
theorem digit_any (c : UInt8) (w : World) : Calls Tryd.prog 22 #[.int .u8 ((c.toNat : Nat) : Int)] w fun e w' => e = .returned (.int .u8 ((hexD c.toNat : Nat) : Int)) ∧ ∃ n, w' = w.drewN n :=
  (verify_zzDigit.calls 3 _ _ w (digit_all ⟨c.toNat, c.toNat_lt⟩)).mono fun _ _ ⟨h, hd⟩ => ⟨h, hd.out⟩

theorem new_any (s : ByteArray) (w : World) :
    Calls Tryd.prog 16 #[.string s] w fun e w' => e = .returned (.iface 49 (.pointer (some ⟨w.heap.size, 0, none⟩))) ∧ w' = w.alloc (.cells #[.string s] 51) := by
  go_enter Tryd.func16, Tryd.ntmps16
  go_wp2
  go_ret
  exact ⟨rfl, rfl⟩

theorem info5 : (Tryd.prog.info? 5).map (fun i => (i.zero, i.size, i.bytes)) = some (some (.int .u8 0), 1, 1) := by kernel_rfl

/-- What zzBytes hands back: a row of the call's own, and nil just if all is read. -/
def Unhexed (s : ByteArray) (w : World) (e : Ending) (w' : World) : Prop :=
  ∃ (v err : Value) (l : List Int), e = .returned (.tuple #[v, err]) ∧ (Kd.int .u8).R 5 w' w.heap.size (fun _ => True) v l ∧ Below w.heap.size w w' ∧
    ((unhex s.data.toList = some l ∧ err = .nilIface) ∨ (unhex s.data.toList = none ∧ ∃ a, err = .iface 49 (.pointer (some a))))

def BytesRel (s : ByteArray) (w : World) (v4 v5 : Value) (wr : World) : Prop :=
  ∃ (i : Nat) (l : List Int), v5 = .int .i64 (i : Int) ∧ (Kd.int .u8).R 5 wr w.heap.size (fun _ => True) v4 l ∧ i = 2 * l.length ∧ i ≤ s.size ∧ unhex s.data.toList = (unhex (s.data.toList.drop i)).map (l ++ ·) ∧ Below w.heap.size w wr

theorem drop_two (s : ByteArray) (i : Nat) (h : i + 1 < s.size) : s.data.toList.drop i = s[i] :: s[i + 1] :: s.data.toList.drop (i + 2) := by
  have h1 : i < s.data.toList.length := by rw [Array.length_toList]; exact (by omega : i < s.size)
  have h2 : i + 1 < s.data.toList.length := by rw [Array.length_toList]; exact h
  rw [List.drop_eq_getElem_cons h1, List.drop_eq_getElem_cons h2]
  rfl
theorem join_all : ∀ a b : Fin 16, bits .or .u8 (((a.val : Nat) : Int) * 16) ((b.val : Nat) : Int) = ((16 * a.val + b.val : Nat) : Int) := by decide +kernel

theorem join_nat {x y : Nat} (hx : x ≤ 15) (hy : y ≤ 15) : bits .or .u8 ((x : Int) * 16) (y : Int) = ((16 * x + y : Nat) : Int) := join_all ⟨x, by omega⟩ ⟨y, by omega⟩
theorem len_reach {l : List Int} (h : l.length + 1 ≤ 2147483648) : (l.length + 1) * 1 ≤ 140737488355328 := by omega
theorem odd_cases (n : Nat) : ((n : Int) % 2 == 1) = true ∨ ((n : Int) % 2 == 1) = false := by cases ((n : Int) % 2 == 1) <;> simp
theorem step_measure {s : ByteArray} {i : Nat} (hc : i + 1 < s.size) : s.size - (intOf (.int .i64 ((i : Int) + 2))).toNat < s.size - (intOf (.int .i64 (i : Int))).toNat := by
  simp [intOf]; omega
theorem unhex_two (a b : UInt8) (r : List UInt8) (ha : hexD a.toNat ≤ 15) (hb : hexD b.toNat ≤ 15) : unhex (a :: b :: r) = (unhex r).map fun l => ((16 * hexD a.toNat + hexD b.toNat : Nat) : Int) :: l := by
  rw [unhex, if_pos ⟨ha, hb⟩]
theorem unhex_bad (a b : UInt8) (r : List UInt8) (h : 15 < hexD a.toNat ∨ 15 < hexD b.toNat) : unhex (a :: b :: r) = none := by
  rw [unhex, if_neg (by omega)]
theorem bytes_step {s : ByteArray} {w w2 : World} {i x y : Nat} {l : List Int} {v6 : Value} (hc : i + 1 < s.size) (hx : hexD (s[i]).toNat = x) (hy : hexD (s[i + 1]).toNat = y) (hx15 : x ≤ 15) (hy15 : y ≤ 15) (hil : i = 2 * l.length)
    (hu : unhex s.data.toList = (unhex (s.data.toList.drop i)).map (l ++ ·)) (hr : (Kd.int .u8).R 5 w2 w.heap.size (fun _ => True) v6 (l ++ [bits .or .u8 ((x : Int) * 16) (y : Int)])) (hb : Below w.heap.size w w2) :
    BytesRel s w v6 (.int .i64 ((i : Int) + 2)) w2 := by
  refine ⟨i + 2, _, by rw [show ((i : Int) + 2) = ((i + 2 : Nat) : Int) by omega], hr, by simp; omega, by omega, ?_, hb⟩
  rw [hu, drop_two s i hc, unhex_two _ _ _ (by omega) (by omega), hx, hy, join_nat hx15 hy15, Option.map_map]
  congr 1
  funext z
  simp
theorem bytes_bad {s : ByteArray} {w w2 : World} {i x y : Nat} {l : List Int} {v : Value} {a : Addr} (hc : i + 1 < s.size) (hx : hexD (s[i]).toNat = x) (hy : hexD (s[i + 1]).toNat = y) (h : 15 < x ∨ 15 < y)
    (hu : unhex s.data.toList = (unhex (s.data.toList.drop i)).map (l ++ ·)) (hr : (Kd.int .u8).R 5 w2 w.heap.size (fun _ => True) v l) (hb : Below w.heap.size w w2) :
    Unhexed s w (.returned (.tuple #[v, .iface 49 (.pointer (some a))])) w2 := by
  refine ⟨v, _, l, rfl, hr, hb, .inr ⟨?_, a, rfl⟩⟩
  rw [hu, drop_two s i hc, unhex_bad _ _ _ (by omega)]
  rfl
theorem bytes_odd {s : ByteArray} {w w2 : World} {i : Nat} {l : List Int} {v : Value} {a : Addr} (hil : i = 2 * l.length) (hi : i ≤ s.size) (hc : ¬ i + 1 < s.size) (ho : ((s.size : Int) % 2 == 1) = true)
    (hu : unhex s.data.toList = (unhex (s.data.toList.drop i)).map (l ++ ·)) (hr : (Kd.int .u8).R 5 w2 w.heap.size (fun _ => True) v l) (hb : Below w.heap.size w w2) :
    Unhexed s w (.returned (.tuple #[v, .iface 49 (.pointer (some a))])) w2 := by
  refine ⟨v, _, l, rfl, hr, hb, .inr ⟨?_, a, rfl⟩⟩
  have ho' : (s.size : Int) % 2 = 1 := by simpa using ho
  have hl : (s.data.toList.drop i).length = 1 := by rw [List.length_drop, Array.length_toList]; show s.size - i = 1; omega
  rw [hu]
  match h : s.data.toList.drop i, hl with
  | [c], _ => rfl
theorem bytes_done {s : ByteArray} {w w2 : World} {i : Nat} {l : List Int} {v : Value} (hil : i = 2 * l.length) (hi : i ≤ s.size) (hc : ¬ i + 1 < s.size) (ho : ((s.size : Int) % 2 == 1) = false)
    (hu : unhex s.data.toList = (unhex (s.data.toList.drop i)).map (l ++ ·)) (hr : (Kd.int .u8).R 5 w2 w.heap.size (fun _ => True) v l) (hb : Below w.heap.size w w2) :
    Unhexed s w (.returned (.tuple #[v, .nilIface])) w2 := by
  refine ⟨v, _, l, rfl, hr, hb, .inl ⟨?_, rfl⟩⟩
  have ho' : ¬ (s.size : Int) % 2 = 1 := by simpa using ho
  have hl : (s.data.toList.drop i).length = 0 := by rw [List.length_drop, Array.length_toList]; show s.size - i = 0; omega
  rw [hu, List.length_eq_zero_iff.1 hl]
  simp [unhex]

theorem len_small {s : ByteArray} {l : List Int} {i : Nat} (h : i = 2 * l.length) (hc : i + 1 < s.size) (hs : s.size ≤ 2147483647) : l.length + 1 ≤ 2147483648 := by omega

theorem bytes_any (s : ByteArray) (hs : s.size ≤ 2147483647) (w : World) : Calls Tryd.prog 17 #[.string s] w (Unhexed s w) := by
  go_enter Tryd.func17, Tryd.ntmps17
  go_wp2
  go_loopw [4, 5] (fun v4 v5 wr => BytesRel s w v4 v5 wr) (fun _ v5 _ => s.size - (intOf v5).toNat)
  case atStart => exact ⟨0, [], rfl, Kd.R_of_own (own_lit w w.heap.size 5 .u8 [] (Nat.le_refl _) (by simp)) (fun _ _ => trivial), rfl, by omega, by simp, (Below.refl _ _).alloc (Nat.le_refl _) _⟩
  case round =>
    obtain ⟨i, l, rfl, hr, hil, hi, hu, hb⟩ := hrel
    have HU := Lib.hid hu
    have HI := Lib.hid hil
    clear hu hil
    by_cases hc : i + 1 < s.size
    · have d0 : hexD (s[i]).toNat ≤ 16 := hexD_le _
      have d1 : hexD (s[i + 1]).toNat ≤ 16 := hexD_le _
      have c0 := fun w => digit_any s[i] w
      have c1 := fun w => digit_any s[i + 1] w
      generalize hx : hexD (s[i]).toNat = x at *
      generalize hy : hexD (s[i + 1]).toNat = y at *
      have C0 := Lib.hid c0
      have C1 := Lib.hid c1
      have HX := Lib.hid hx
      have HY := Lib.hid hy
      clear c0 c1 hx hy
      have p0 : (0 : Int) ≤ (i : Int) := by omega
      have p1 : (i : Int) < (s.size : Int) := by omega
      have p2 : (0 : Int) ≤ (i : Int) + 1 := by omega
      have p3 : (i : Int) + 1 < (s.size : Int) := by omega
      go_wp2
      have s1 : IntKind.i64.wrap ((i : Int) + 1) = (i : Int) + 1 := IntWalk.i64_in _ (by omega)
      have s2 : ((i : Int) + 1).toNat = i + 1 := by omega
      go_quiet ((go_at_call 22; first | (with_reducible refine Calls.quiet_of (C0.out _)) | (with_reducible refine Calls.quiet_of (C1.out _))))
      have hrn := Aside0.mk (Kd.R_drewN hr nq)
      have hbn := Aside0.mk (pw_below_drewN hb nq)
      have HLL : l.length + 1 ≤ 2147483648 := len_small HI.out hc hs
      clear hr hb
      by_cases hbad : x ≤ 15 ∧ y ≤ 15
      · obtain ⟨hx15, hy15⟩ := hbad
        have HJ := Aside0.mk (join_nat hx15 hy15)
        go_wp2_with (at_builtin; go_loud (refine Kd.R_append (Kd.int .u8) (w0 := w) (W := wr.drewN nq) w.heap.size rfl (.tmp 33) (.tmp 38) 23 5 (.int .u8 0) 1 rfl Tryd.underlying23 info5 rfl (by decide) (by omega) u4 l (bits .or .u8 ((x : Int) * 16) (y : Int)) [.int .u8 (bits .or .u8 ((x : Int) * 16) (y : Int))] (fun _ => True) (fun _ => False) rfl rfl ?aP (fun _ hk => hk.elim) ?aF ?aO ?aB ?aS ?aL ?_; (case aP => exact rfl); (case aF => exact fun _ _ => trivial); (case aO => exact hrn.out); (case aB => exact hbn.out); (case aS => exact hbn.out.size); (case aL => exact len_reach HLL); intro v6 w2 hr2 hb3 _ _))
        go_roundw
        case rel => exact bytes_step hc HX.out HY.out hx15 hy15 HI.out HU.out hr2 hb3
        case measure => exact step_measure hc
      · have hbad' : 15 < x ∨ 15 < y := by omega
        clear hbad
        have HBAD := Lib.hid hbad'
        by_cases hx15 : 15 < x
        · clear hbad'
          go_wp2_with (go_at_call 16; ((with_reducible refine (new_any _ _).mono ?_); rintro e w1 ⟨rfl, rfl⟩))
          go_ret2
          exact bytes_bad hc HX.out HY.out HBAD.out HU.out (Kd.R_alloc hrn.out _) (below_alloc hbn.out _)
        · have hy15 : 15 < y := by omega
          clear hbad'
          go_wp2_with (go_at_call 16; ((with_reducible refine (new_any _ _).mono ?_); rintro e w1 ⟨rfl, rfl⟩))
          go_ret2
          exact bytes_bad hc HX.out HY.out HBAD.out HU.out (Kd.R_alloc hrn.out _) (below_alloc hbn.out _)
    · have HC := Lib.hid hc
      have ho := odd_cases s.size
      rcases ho with ho | ho
      · go_wp2_with (go_at_call 16; ((with_reducible refine (new_any _ _).mono ?_); rintro e w1 ⟨rfl, rfl⟩))
        go_ret2
        exact bytes_odd HI.out hi HC.out ho HU.out (Kd.R_alloc hr _) (below_alloc hb _)
      · go_wp2_with (go_at_call 16; ((with_reducible refine (new_any _ _).mono ?_); rintro e w1 ⟨rfl, rfl⟩))
        go_ret2
        exact bytes_done HI.out hi HC.out ho HU.out hr hb

end Go.Proofs.YtehcnjjkklogbaaDoor.Dig
