/- FnPruneFor's parts: which functions come to an end and with what. No condition but sizes. -/
import Derived.Test.YtehcnjjkklogbaaPfP
import Derived.Test.YtehcnjjkklogbaaPfQ
import Derived.Test.YtehcnjjkklogbaaPruneB
import Derived.Maps.Own
import Derived.Maps.OwnSet
import Derived.Maps.Views
namespace Go.Proofs.Ytehcnjjkklogbaa.PfOwn
open Go.RowKit Go.Maps Go.Proofs.Ytehcnjjkklogbaa.FnPruneOwn Go.Proofs.Ytehcnjjkklogbaa.PFnPruneFor Go.Proofs.YtehcnjjkklogbaaW.PrintWords

/-- One option set or cleared. -/
def one (x cur bit : Int) : Int := if x = 0 then cur else if x = 1 then Go.bits .or .u8 cur bit else Go.bits .andNot .u8 cur bit
def own1 (all a : Int) : Int := one a all 1
def own2 (all a b : Int) : Int := one b (own1 all a) 2
def own3 (all a b c : Int) : Int := one c (own2 all a b) 4
def own4 (all a b c d : Int) : Int := one d (own3 all a b c) 8

theorem ix0 (a b c d : Int) (W : World) : (Instr.index 31 (.agg #[.int .u8 a, .int .u8 b, .int .u8 c, .int .u8 d]) (.int .i64 0)).run Try.prog W = .ok (.int .u8 a) W := by kernel_rfl
theorem ix1 (a b c d : Int) (W : World) : (Instr.index 31 (.agg #[.int .u8 a, .int .u8 b, .int .u8 c, .int .u8 d]) (.int .i64 1)).run Try.prog W = .ok (.int .u8 b) W := by kernel_rfl
theorem ix2 (a b c d : Int) (W : World) : (Instr.index 31 (.agg #[.int .u8 a, .int .u8 b, .int .u8 c, .int .u8 d]) (.int .i64 2)).run Try.prog W = .ok (.int .u8 c) W := by kernel_rfl
theorem ix3 (a b c d : Int) (W : World) : (Instr.index 31 (.agg #[.int .u8 a, .int .u8 b, .int .u8 c, .int .u8 d]) (.int .i64 3)).run Try.prog W = .ok (.int .u8 d) W := by kernel_rfl
/-- (14) DepPruneWith. -/
theorem with_any (all a b c d : Int) (w : World) :
    Calls Try.prog 14 #[.int .u8 all, .agg #[.int .u8 a, .int .u8 b, .int .u8 c, .int .u8 d]] w fun e w' => e = .returned (.int .u8 (own4 all a b c d)) ∧ Below w.heap.size w w' := by
  go_enter Try.func14, Try.ntmps14
  go_wp2
  go_loopw [0, 9] (fun v0 v9 wr => ∃ k : Nat, k ≤ 4 ∧ v9 = .int .i64 (k : Int) ∧ v0 = .int .u8 (if k = 0 then all else if k = 1 then own1 all a else if k = 2 then own2 all a b else if k = 3 then own3 all a b c else own4 all a b c d) ∧ Below w.heap.size w wr) (fun _ v9 _ => 4 - (intOf v9).toNat)
  case atStart => exact ⟨0, by omega, rfl, rfl, by repeat (first | exact Below.refl _ _ | apply below_alloc | apply pw_below_drewN)⟩
  case round =>
    obtain ⟨k, hk, hv9, hv, HB⟩ := hrel
    have hk5 : k = 0 ∨ k = 1 ∨ k = 2 ∨ k = 3 ∨ k = 4 := by omega
    clear hk
    rcases hk5 with rfl | rfl | rfl | rfl | rfl
    · obtain rfl : u0 = .int .u8 all := hv
      obtain rfl : u9 = .int .i64 0 := hv9
      have hix := ix0 a b c d
      have hone : (own1 all a) = one a all 1 := rfl
      by_cases h0 : a = 0
      · have q0 : (a == 0) = true := beq_iff_eq.2 h0
        rw [one, if_pos h0] at hone
        clear h0
        go_wp2
        go_roundw
        case rel => exact ⟨1, by omega, rfl, by show _ = Value.int .u8 (own1 all a); rw [hone], HB⟩
        case measure => simp [intOf]
      · by_cases h1 : a = 1
        · have q0 : (a == 0) = false := beq_eq_false_iff_ne.2 h0
          have q1 : (a == 1) = true := beq_iff_eq.2 h1
          rw [one, if_neg h0, if_pos h1] at hone
          clear h0 h1
          go_wp2
          go_roundw
          case rel => exact ⟨1, by omega, rfl, by show _ = Value.int .u8 (own1 all a); rw [hone], HB⟩
          case measure => simp [intOf]
        · have q0 : (a == 0) = false := beq_eq_false_iff_ne.2 h0
          have q1 : (a == 1) = false := beq_eq_false_iff_ne.2 h1
          rw [one, if_neg h0, if_neg h1] at hone
          clear h0 h1
          go_wp2
          go_roundw
          case rel => exact ⟨1, by omega, rfl, by show _ = Value.int .u8 (own1 all a); rw [hone], HB⟩
          case measure => simp [intOf]
    · obtain rfl : u0 = .int .u8 (own1 all a) := hv
      obtain rfl : u9 = .int .i64 1 := hv9
      have hix := ix1 a b c d
      have hone : (own2 all a b) = one b (own1 all a) 2 := rfl
      by_cases h0 : b = 0
      · have q0 : (b == 0) = true := beq_iff_eq.2 h0
        rw [one, if_pos h0] at hone
        clear h0
        go_wp2
        go_roundw
        case rel => exact ⟨2, by omega, rfl, by show _ = Value.int .u8 (own2 all a b); rw [hone], HB⟩
        case measure => simp [intOf]
      · by_cases h1 : b = 1
        · have q0 : (b == 0) = false := beq_eq_false_iff_ne.2 h0
          have q1 : (b == 1) = true := beq_iff_eq.2 h1
          rw [one, if_neg h0, if_pos h1] at hone
          clear h0 h1
          go_wp2
          go_roundw
          case rel => exact ⟨2, by omega, rfl, by show _ = Value.int .u8 (own2 all a b); rw [hone], HB⟩
          case measure => simp [intOf]
        · have q0 : (b == 0) = false := beq_eq_false_iff_ne.2 h0
          have q1 : (b == 1) = false := beq_eq_false_iff_ne.2 h1
          rw [one, if_neg h0, if_neg h1] at hone
          clear h0 h1
          go_wp2
          go_roundw
          case rel => exact ⟨2, by omega, rfl, by show _ = Value.int .u8 (own2 all a b); rw [hone], HB⟩
          case measure => simp [intOf]
    · obtain rfl : u0 = .int .u8 (own2 all a b) := hv
      obtain rfl : u9 = .int .i64 2 := hv9
      have hix := ix2 a b c d
      have hone : (own3 all a b c) = one c (own2 all a b) 4 := rfl
      by_cases h0 : c = 0
      · have q0 : (c == 0) = true := beq_iff_eq.2 h0
        rw [one, if_pos h0] at hone
        clear h0
        go_wp2
        go_roundw
        case rel => exact ⟨3, by omega, rfl, by show _ = Value.int .u8 (own3 all a b c); rw [hone], HB⟩
        case measure => simp [intOf]
      · by_cases h1 : c = 1
        · have q0 : (c == 0) = false := beq_eq_false_iff_ne.2 h0
          have q1 : (c == 1) = true := beq_iff_eq.2 h1
          rw [one, if_neg h0, if_pos h1] at hone
          clear h0 h1
          go_wp2
          go_roundw
          case rel => exact ⟨3, by omega, rfl, by show _ = Value.int .u8 (own3 all a b c); rw [hone], HB⟩
          case measure => simp [intOf]
        · have q0 : (c == 0) = false := beq_eq_false_iff_ne.2 h0
          have q1 : (c == 1) = false := beq_eq_false_iff_ne.2 h1
          rw [one, if_neg h0, if_neg h1] at hone
          clear h0 h1
          go_wp2
          go_roundw
          case rel => exact ⟨3, by omega, rfl, by show _ = Value.int .u8 (own3 all a b c); rw [hone], HB⟩
          case measure => simp [intOf]
    · obtain rfl : u0 = .int .u8 (own3 all a b c) := hv
      obtain rfl : u9 = .int .i64 3 := hv9
      have hix := ix3 a b c d
      have hone : (own4 all a b c d) = one d (own3 all a b c) 8 := rfl
      by_cases h0 : d = 0
      · have q0 : (d == 0) = true := beq_iff_eq.2 h0
        rw [one, if_pos h0] at hone
        clear h0
        go_wp2
        go_roundw
        case rel => exact ⟨4, by omega, rfl, by show _ = Value.int .u8 (own4 all a b c d); rw [hone], HB⟩
        case measure => simp [intOf]
      · by_cases h1 : d = 1
        · have q0 : (d == 0) = false := beq_eq_false_iff_ne.2 h0
          have q1 : (d == 1) = true := beq_iff_eq.2 h1
          rw [one, if_neg h0, if_pos h1] at hone
          clear h0 h1
          go_wp2
          go_roundw
          case rel => exact ⟨4, by omega, rfl, by show _ = Value.int .u8 (own4 all a b c d); rw [hone], HB⟩
          case measure => simp [intOf]
        · have q0 : (d == 0) = false := beq_eq_false_iff_ne.2 h0
          have q1 : (d == 1) = false := beq_eq_false_iff_ne.2 h1
          rw [one, if_neg h0, if_neg h1] at hone
          clear h0 h1
          go_wp2
          go_roundw
          case rel => exact ⟨4, by omega, rfl, by show _ = Value.int .u8 (own4 all a b c d); rw [hone], HB⟩
          case measure => simp [intOf]
    · obtain rfl : u0 = .int .u8 (own4 all a b c d) := hv
      obtain rfl : u9 = .int .i64 4 := hv9
      go_wp2
      go_ret
      exact ⟨rfl, HB⟩

/-! ### The map of the projects' own options -/
def u8of : Value → Option Int
  | .int .u8 n => some n
  | _ => none
def setElem : Value → Option (DataW Unit × List MemPlace)
  | .agg cs => match cs.toList with
    | [x0, x1, x2, x3] => (u8of x0).bind fun a => (u8of x1).bind fun b => (u8of x2).bind fun c => (u8of x3).bind fun d => some (.agg [.lit (.int .u8 a), .lit (.int .u8 b), .lit (.int .u8 c), .lit (.int .u8 d)], [])
    | _ => none
  | _ => none
def setDat (a b c d : Int) : DataW Unit := .agg [.lit (.int .u8 a), .lit (.int .u8 b), .lit (.int .u8 c), .lit (.int .u8 d)]
theorem setElem_mk (a b c d : Int) : setElem (.agg #[.int .u8 a, .int .u8 b, .int .u8 c, .int .u8 d]) = some (setDat a b c d, []) := rfl
theorem u8of_some {v : Value} {n : Int} (h : u8of v = some n) : v = .int .u8 n := by
  unfold u8of at h
  split at h
  · injection h with h; rw [h]
  · cases h
theorem setElem_inv {v : Value} {a b c d : Int} {ps : List MemPlace} (h : setElem v = some (setDat a b c d, ps)) : v = .agg #[.int .u8 a, .int .u8 b, .int .u8 c, .int .u8 d] := by
  unfold setElem at h
  split at h
  · rename_i cs
    split at h
    · rename_i x0 x1 x2 x3 hcs
      obtain ⟨a1, e0, h⟩ := Option.bind_eq_some_iff.1 h
      obtain ⟨b1, e1, h⟩ := Option.bind_eq_some_iff.1 h
      obtain ⟨c1, e2, h⟩ := Option.bind_eq_some_iff.1 h
      obtain ⟨d1, e3, h⟩ := Option.bind_eq_some_iff.1 h
      simp [setDat] at h
      obtain ⟨⟨rfl, rfl, rfl, rfl⟩, _⟩ := h
      rw [show cs = cs.toList.toArray by simp, hcs, u8of_some e0, u8of_some e1, u8of_some e2, u8of_some e3]
    · cases h
  · cases h
theorem law : Keyed Try.prog 49 := string_keyed Try.underlying49
theorem zeroE (w : World) : (zeroValue 48).run Try.prog w = .ok (.agg #[.int .u8 0, .int .u8 0, .int .u8 0, .int .u8 0]) w := by kernel_rfl

theorem look_at {P : Program} (w : World) {ops : Array Oper} {rest : List Oper} {o : Oper} {a : Act} {Q : Exit → Act → World → Prop} (hg : o.guard = none) (m x : Operand) (t : TypeId) (hop : o.op = Op.lookup t m x true)
    (k e : TypeId) (K : Keyed P k) (ht : P.underlying t = some (.map k e)) (hz : (zeroValue e).run P w = .ok (.agg #[.int .u8 0, .int .u8 0, .int .u8 0, .int .u8 0]) w) (b n : Nat) (D : DataW Unit)
    (hm : a.eval m = .map (some b)) (hown : w.ownsMap P k setElem b n D) (key : Value) (kl : Lit) (hx : a.eval x = key) (hkey : keyOf P k key = some kl) (q : Bool) (a0 b0 c0 d0 : Int) (hh : Maps.has D kl = q) (hat : D.atKey kl (setDat 0 0 0 0) = setDat a0 b0 c0 d0)
    (hK : wpList P ops Q rest (a.put o.dst (.tuple #[.agg #[.int .u8 a0, .int .u8 b0, .int .u8 c0, .int .u8 d0], .bool q])) w) :
    wpList P ops Q (o :: rest) a w :=
  wpList_lookup_own_ok w hg m x t hop k e K ht setElem hz (setDat 0 0 0 0) [] (setElem_mk 0 0 0 0) b n D hm hown key kl hx hkey (fun v ps hv => by
    rw [hat] at hv
    obtain rfl := setElem_inv hv
    rw [hh]; exact hK)

/-- (20) PruneOptionsFor, of a project without own options. -/
theorem for_not (all : Int) (root : ByteArray) (b n : Nat) (D : DataW Unit) (kl : Lit) (hkey : keyOf Try.prog 49 (.string root) = some kl) (hh : Maps.has D kl = false) (w : World) (hown : w.ownsMap Try.prog 49 setElem b n D) :
    Calls Try.prog 20 #[.agg #[.int .u8 all, .map (some b)], .string root] w fun e w' => e = .returned (.int .u8 all) ∧ Below w.heap.size w w' := by
  have hown1 := hown.alloc (.cells #[.int .u8 all, .map (some b)] 46)
  have HO := Lib.hid hown1
  have HK := Lib.hid hkey
  have HH := Lib.hid hh
  clear hown hown1 hkey hh
  go_enter Try.func20, Try.ntmps20
  go_wp2_with (at_lookup; refine look_at _ rfl _ _ 44 rfl 49 48 law Try.underlying44 (zeroE _) b n D rfl HO.out _ kl rfl HK.out false 0 0 0 0 HH.out (atKey_of_not_has HH.out _) ?_)
  go_ret
  exact ⟨rfl, by repeat (first | exact Below.refl _ _ | apply below_alloc | apply pw_below_drewN)⟩

set_option maxHeartbeats 8000000 in
/-- (20) PruneOptionsFor, of a project with own options. -/
theorem for_has (all a0 b0 c0 d0 : Int) (root : ByteArray) (b n : Nat) (D : DataW Unit) (kl : Lit) (hkey : keyOf Try.prog 49 (.string root) = some kl) (hh : Maps.has D kl = true) (hat : D.atKey kl (setDat 0 0 0 0) = setDat a0 b0 c0 d0) (w : World) (hown : w.ownsMap Try.prog 49 setElem b n D) :
    Calls Try.prog 20 #[.agg #[.int .u8 all, .map (some b)], .string root] w fun e w' => e = .returned (.int .u8 (own4 all a0 b0 c0 d0)) ∧ Below w.heap.size w w' := by
  have hown1 := hown.alloc (.cells #[.int .u8 all, .map (some b)] 46)
  have HO := Lib.hid hown1
  have HK := Lib.hid hkey
  have HH := Lib.hid hh
  have HA := Lib.hid hat
  clear hown hown1 hkey hh hat
  go_enter Try.func20, Try.ntmps20
  go_wp2_with (at_lookup; refine look_at _ rfl _ _ 44 rfl 49 48 law Try.underlying44 (zeroE _) b n D rfl HO.out _ kl rfl HK.out true a0 b0 c0 d0 HH.out HA.out ?_)
  all_goals
    go_ret
    refine ⟨?_, by repeat (first | exact Below.refl _ _ | apply below_alloc | apply pw_below_drewN)⟩
    simp_all [own4, own3, own2, own1, one]

end Go.Proofs.Ytehcnjjkklogbaa.PfOwn
