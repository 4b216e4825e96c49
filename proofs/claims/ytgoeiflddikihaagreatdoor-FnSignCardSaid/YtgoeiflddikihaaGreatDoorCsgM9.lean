/- Merged by program out of: VRead. -/
import Derived.Test.YtgoeiflddikihaaGreatDoorCsgM7
import Derived.Test.YtgoeiflddikihaaGreatDoorCsgM8
import Derived.Test.YtgoeiflddikihaaGreatDoorCsgM2
import Derived.Lib.ParseIntB
import Derived.Deep.CutBlock
import Derived.Deep.CutRange
import Derived.Deep.DeepCutAuto
section
namespace Go.Proofs.YtgoeiflddikihaaGreatDoor.Ver
open Go.RowKit Go.Proofs.YtgoeiflddikihaaGreatDoor.Dig Go.Proofs.YtgoeiflddikihaaGreatDoorW.PrintWords
theorem new_any (s : ByteArray) (w : World) :
  Calls Tryz.prog 144 #[.string s] w fun e w' => e = .returned (.iface 260 (.pointer (some ⟨w.heap.size, 0, none⟩))) ∧ w' = w.alloc (.cells #[.string s] 262) := by
 go_enter Tryz.func144, Tryz.ntmps144
 go_wp2
 go_ret
 exact ⟨rfl, rfl⟩
def numOf (l : List UInt8) : Option (Nat × List UInt8) :=
 if digN l = 0 then none else match Lib.parseUintB 64 (l.take (digN l)) with
  | .ok u => some (u, l.drop (digN l))
  | _ => none
def goOn : List UInt8 → Bool
 | c :: _ => c == 46
 | [] => false
def nums : Nat → List Nat → List UInt8 → Option (List Nat × List UInt8)
 | 0, _, _ => none
 | m + 1, acc, l => match numOf l with
  | none => none
  | some (a, r) => if goOn r && decide (0 < m) then nums m (acc ++ [a]) (r.drop 1) else some (acc ++ [a], r)
def part (c : UInt8) : List UInt8 → Option (List UInt8 × List UInt8)
 | x :: r => if x = c then (if identN r = 0 then none else some (r.take (identN r), r.drop (identN r))) else some ([], x :: r)
 | [] => some ([], [])
def bare0 : List UInt8 → List UInt8
 | c :: r => if c = 118 then r else c :: r
 | [] => []
def readV (s : ByteArray) : Option (SV × Nat) :=
 match nums 3 [] (bare0 s.data.toList) with
 | none => none
 | some (ns, r) => match part 45 r with
  | none => none
  | some (pre, r1) => match part 43 r1 with
   | none => none
   | some (mt, r2) => if r2 = [] then some (⟨ns.getD 0 0, ns.getD 1 0, ns.getD 2 0, ⟨pre.toArray⟩, ⟨mt.toArray⟩, s⟩, ns.length) else none
abbrev zSV : Array Value := #[.int .u64 0, .int .u64 0, .int .u64 0, .string ⟨#[]⟩, .string ⟨#[]⟩, .string ⟨#[]⟩]
abbrev bSV (a b c : Int) (pre mt s : ByteArray) : Obj := .cells #[.int .u64 a, .int .u64 b, .int .u64 c, .string pre, .string mt, .string s] 197 (0, 0)
structure Own (w wx : World) (a b c : Int) (pre mt s : ByteArray) : Prop where
 bel : Below w.heap.size w wx
 res : wx.heap[w.heap.size]? = some (.cells zSV 197 (0, 0))
 ver : wx.heap[w.heap.size + 1 + 1]? = some (bSV a b c pre mt s)
theorem alloc_at (w : World) (o : Obj) : (w.alloc o).heap[w.heap.size]? = some o := by
 show (w.heap.push o)[w.heap.size]? = _
 simp
theorem alloc_size (w : World) (o : Obj) : (w.alloc o).heap.size = w.heap.size + 1 := by
 show (w.heap.push o).size = _
 simp
theorem own_start (w : World) (err : Obj) (s : ByteArray) : Own w (((w.alloc (.cells zSV 197)).alloc err).alloc (.cells #[.int .u64 0, .int .u64 0, .int .u64 0, .string ⟨#[]⟩, .string ⟨#[]⟩, .string s] 197)) 0 0 0 ⟨#[]⟩ ⟨#[]⟩ s := by
 have e1 := alloc_size w (.cells zSV 197)
 have e2 := alloc_size (w.alloc (.cells zSV 197)) err
 refine ⟨below_alloc (below_alloc (below_alloc (Below.refl _ _) _) _) _, ?_, ?_⟩
 ·rw [Below.heap_alloc _ _ _ (by omega), Below.heap_alloc _ _ _ (by omega)]; exact alloc_at w _
 ·rw [← e1, ← e2]; exact alloc_at _ _
theorem bare0_size (s : ByteArray) : (bare0 s.data.toList).length ≤ s.size := by
 have : s.data.toList.length = s.size := Array.length_toList
 cases h : s.data.toList with
 | nil => simp [bare0]
 | cons c r => rw [h] at this; simp only [bare0]; split <;> (simp at this ⊢; omega)
theorem bare0_v {s : ByteArray} (h : 0 < s.size) (hc : (s[0]).toNat = 118) : (s.extract 1 s.size).data.toList = bare0 s.data.toList := by
 have e := drop_at s 0 h
 rw [List.drop_zero] at e
 rw [e, bare0, if_pos (UInt8.toNat_inj.1 (by rw [hc]; rfl)), ByteArray.data_extract, Array.toList_extract]
 simp only [List.extract_eq_take_drop]
 rw [List.take_of_length_le (by rw [List.length_drop, Array.length_toList]; exact Nat.le_refl _)]
theorem bare0_not {s : ByteArray} (h : 0 < s.size) (hc : (s[0]).toNat ≠ 118) : s.data.toList = bare0 s.data.toList := by
 have e := drop_at s 0 h
 rw [List.drop_zero] at e
 rw [e, bare0, if_neg (fun e => hc (by rw [e]; rfl))]
theorem bare0_nil {s : ByteArray} (h : s.size = 0) : s.data.toList = bare0 s.data.toList := by
 have : s.data.toList = [] := List.length_eq_zero_iff.1 (by rw [Array.length_toList]; exact h)
 rw [this]; rfl
def begins (l : List UInt8) (c : Nat) : Bool := match l with
 | x :: _ => x.toNat == c
 | [] => false
theorem begins_nil {s : ByteArray} {c : Nat} (h : s.size = 0) : begins s.data.toList c = false := by
 have : s.data.toList = [] := List.length_eq_zero_iff.1 (by rw [Array.length_toList]; exact h)
 rw [this]; rfl
theorem begins_at {s : ByteArray} {c : Nat} (h : 0 < s.size) : begins s.data.toList c = ((s[0]).toNat == c) := by
 have e := drop_at s 0 h
 rw [List.drop_zero] at e
 rw [e]; rfl
theorem isEmpty_true {s : ByteArray} (h : s.size = 0) : s.toList.isEmpty = true := by
 have : s.data.toList = [] := List.length_eq_zero_iff.1 (by rw [Array.length_toList]; exact h)
 rw [ByteArray.toList_eq, this]; rfl
theorem isEmpty_false {s : ByteArray} (h : 0 < s.size) : s.toList.isEmpty = false := by
 have e := drop_at s 0 h
 rw [List.drop_zero] at e
 rw [ByteArray.toList_eq, e]; rfl
theorem begins_pos {s : ByteArray} {c : Nat} (h : begins s.data.toList c = true) : 0 < s.size := by
 rcases Nat.eq_zero_or_pos s.size with h0 | h0
 ·rw [begins_nil h0] at h; cases h
 ·exact h0
theorem begins_one {s : ByteArray} {c : Nat} (h : begins s.data.toList c = true) (h0 : 0 < s.size) : (s[0]).toNat = c := by
 rw [begins_at h0] at h
 exact beq_iff_eq.1 h
theorem bare0_of_not {s : ByteArray} (h : begins s.data.toList 118 = false) : s.data.toList = bare0 s.data.toList := by
 rcases Nat.eq_zero_or_pos s.size with h0 | h0
 ·exact bare0_nil h0
 ·rw [begins_at h0] at h
  exact bare0_not h0 (beq_eq_false_iff_ne.1 h)
theorem cast_beq (a b : Nat) : ((a : Int) == (b : Int)) = (a == b) := by
 by_cases h : a = b
 ·simp [h]
 ·rw [beq_eq_false_iff_ne.2 h, beq_eq_false_iff_ne]; omega
def ReadEnd (s : ByteArray) (w : World) (e : Ending) (w' : World) : Prop :=
 Below w.heap.size w w' ∧ match readV s with
  | none => ∃ a, e = .returned (.tuple #[.agg zSV, .int .i64 0, .iface 260 (.pointer (some a))])
  | some (v, k) => e = .returned (.tuple #[.agg v.cells, .int .i64 (k : Int), .nilIface])
theorem readEnd_bad {s : ByteArray} {w w' : World} {a : Addr} (h : readV s = none) (hb : Below w.heap.size w w') : ReadEnd s w (.returned (.tuple #[.agg zSV, .int .i64 0, .iface 260 (.pointer (some a))])) w' := by
 refine ⟨hb, ?_⟩
 rw [h]; exact ⟨a, rfl⟩
theorem readV_none {s : ByteArray} (h : nums 3 [] (bare0 s.data.toList) = none) : readV s = none := by unfold readV; rw [h]
theorem digN_le : ∀ l : List UInt8, digN l ≤ l.length
 | [] => Nat.le_refl _
 | c :: r => by simp only [digN]; split <;> simp [digN_le r]
theorem digN_step {s : ByteArray} {i : Nat} (h : i < s.size) : digN (s.data.toList.drop i) = if 48 ≤ (s[i]).toNat ∧ (s[i]).toNat ≤ 57 then digN (s.data.toList.drop (i + 1)) + 1 else 0 := by
 rw [drop_at s i h, digN]
 simp only [isDig, Bool.and_eq_true, decide_eq_true_eq]
theorem digN_end {s : ByteArray} {i : Nat} (h : ¬ i < s.size) : digN (s.data.toList.drop i) = 0 := by
 rw [List.drop_eq_nil_of_le (by rw [Array.length_toList]; exact Nat.not_lt.1 h)]
 rfl
theorem take_data (s : ByteArray) (n : Nat) : (s.extract 0 n).data.toList = s.data.toList.take n := by
 rw [ByteArray.data_extract, Array.toList_extract]
 simp only [List.extract_eq_take_drop]
 simp
theorem drop_data (s : ByteArray) (n : Nat) : (s.extract n s.size).data.toList = s.data.toList.drop n := by
 rw [ByteArray.data_extract, Array.toList_extract]
 simp only [List.extract_eq_take_drop]
 rw [List.take_of_length_le (by rw [List.length_drop, Array.length_toList]; exact Nat.le_refl _)]
theorem uint_any (s : ByteArray) (hs : s.size ≤ 2147483647) (w : World) (hv : Vars w) : Calls Tryz.prog 152 #[.string s, .int .i64 10, .int .i64 64] w fun e w' => ∃ (n : Int) (err : Value), e = .returned (.tuple #[.int .u64 n, err]) ∧ Below w.heap.size w w' ∧
  ((∃ u : Nat, n = u ∧ Lib.parseUintB 64 s.data.toList = .ok u ∧ err = .nilIface) ∨ ((∀ u, Lib.parseUintB 64 s.data.toList ≠ .ok u) ∧ ∃ t a, err = .iface t (.pointer (some a)))) := by
 obtain ⟨⟨t1, p1, h1⟩, ⟨t2, p2, h2⟩, h3⟩ := hv
 rcases h : Lib.parseUintB 64 s.data.toList with v | _ | _
 ·refine (Tryz.strconv_ParseUint_10_at64_ok s (by omega) v h w).mono ?_
  rintro e w' ⟨rfl, hw⟩
  refine ⟨v, .nilIface, rfl, ?_, .inl ⟨v, rfl, rfl, rfl⟩⟩
  rcases hw with rfl | rfl
  ·exact Below.refl _ _
  ·exact Lib.bytesWorld_below _ _ _
 ·refine (Tryz.strconv_ParseUint_10_at64_syntax_var s (by omega) h t1 p1 w h1).mono ?_
  rintro e w' ⟨N, rfl, _, _, hb⟩
  exact ⟨_, _, rfl, hb, .inr ⟨(fun u e => by cases e), _, _, rfl⟩⟩
 ·refine (Tryz.strconv_ParseUint_10_at64_range_var s (by omega) h t2 p2 w h2).mono ?_
  rintro e w' ⟨N, rfl, _, _, hb⟩
  exact ⟨_, _, rfl, hb, .inr ⟨(fun u e => by cases e), _, _, rfl⟩⟩
theorem Own.below {w wx wy : World} {a b c : Int} {pre mt s : ByteArray} (h : Own w wx a b c pre mt s) (hb : Below wx.heap.size wx wy) : Own w wy a b c pre mt s :=
 ⟨below_step h.bel hb, blk_below h.res hb, blk_below h.ver hb⟩
theorem Own.drewN {w wx : World} {a b c : Int} {pre mt s : ByteArray} (h : Own w wx a b c pre mt s) (n : Nat) : Own w (wx.drewN n) a b c pre mt s := h.below (pw_below_drewN (Below.refl _ _) n)
theorem back_bytes (b : ByteArray) : (⟨b.data.toList.toArray⟩ : ByteArray) = b := by apply ByteArray.ext; simp
theorem own_ne (w : World) : w.heap.size ≠ w.heap.size + 1 + 1 := by omega
theorem Own.put0 {w wx : World} {a b c : Int} {pre mt s : ByteArray} (h : Own w wx a b c pre mt s) (u : Int) : Own w (wx.setCell ⟨w.heap.size + 1 + 1, 0, none⟩ (.int .u64 u)) u b c pre mt s :=
 ⟨h.bel.setCell (by simp; omega) _, blk_far h.res (own_ne w) _, blk_put h.ver 0 _ rfl⟩
theorem Own.put1 {w wx : World} {a b c : Int} {pre mt s : ByteArray} (h : Own w wx a b c pre mt s) (u : Int) : Own w (wx.setCell ⟨w.heap.size + 1 + 1, 1, none⟩ (.int .u64 u)) a u c pre mt s :=
 ⟨h.bel.setCell (by simp; omega) _, blk_far h.res (own_ne w) _, blk_put h.ver 1 _ rfl⟩
theorem Own.put2 {w wx : World} {a b c : Int} {pre mt s : ByteArray} (h : Own w wx a b c pre mt s) (u : Int) : Own w (wx.setCell ⟨w.heap.size + 1 + 1, 2, none⟩ (.int .u64 u)) a b u pre mt s :=
 ⟨h.bel.setCell (by simp; omega) _, blk_far h.res (own_ne w) _, blk_put h.ver 2 _ rfl⟩
theorem Own.put3 {w wx : World} {a b c : Int} {pre mt s : ByteArray} (h : Own w wx a b c pre mt s) (u : ByteArray) : Own w (wx.setCell ⟨w.heap.size + 1 + 1, 3, none⟩ (.string u)) a b c u mt s :=
 ⟨h.bel.setCell (by simp; omega) _, blk_far h.res (own_ne w) _, blk_put h.ver 3 _ rfl⟩
theorem Own.put4 {w wx : World} {a b c : Int} {pre mt s : ByteArray} (h : Own w wx a b c pre mt s) (u : ByteArray) : Own w (wx.setCell ⟨w.heap.size + 1 + 1, 4, none⟩ (.string u)) a b c pre u s :=
 ⟨h.bel.setCell (by simp; omega) _, blk_far h.res (own_ne w) _, blk_put h.ver 4 _ rfl⟩
theorem cut_from (s : ByteArray) (n : Nat) (h : n ≤ s.size) (W : World) : (Instr.slice 9 (.string s) (some (.int .i64 (n : Int))) none none).run Tryz.prog W = .ok (.string (s.extract n s.size)) W := by
 rw [run_slice_string_from_if W 9 s .i64 (n : Int) Tryz.underlying9]
 rw [if_pos (by omega)]
 simp
theorem three_of {acc : List Nat} (h : acc.length ≤ 2) : acc = [] ∨ (∃ a, acc = [a]) ∨ ∃ a b, acc = [a, b] := by
 match acc, h with
 | [], _ => exact .inl rfl
 | [a], _ => exact .inr (.inl ⟨a, rfl⟩)
 | [a, b], _ => exact .inr (.inr ⟨a, b, rfl⟩)
theorem cut_mid (s : ByteArray) (i j : Nat) (h : i ≤ j) (h2 : j ≤ s.size) (W : World) : (Instr.slice 9 (.string s) (some (.int .i64 (i : Int))) (some (.int .i64 (j : Int))) none).run Tryz.prog W = .ok (.string (s.extract i j)) W := by
 rw [run_slice_string W 9 s .i64 .i64 _ _ Tryz.underlying9 (by omega) (by omega) (by omega)]
 simp
theorem ident_size (s : ByteArray) : identN s.data.toList ≤ s.size := by
 have h := identN_le s.data.toList
 have e : s.data.toList.length = s.size := Array.length_toList
 omega
theorem part_not {s : ByteArray} {c : UInt8} (h : begins s.data.toList c.toNat = false) : part c s.data.toList = some ([], s.data.toList) := by
 cases e : s.data.toList with
 | nil => rfl
 | cons x r =>
  rw [e] at h
  rw [part, if_neg (fun hx => by rw [hx] at h; simp [begins] at h)]
theorem begins_list {s : ByteArray} {c : UInt8} (h : begins s.data.toList c.toNat = true) : s.data.toList = c :: s.data.toList.drop 1 := by
 have h0 := begins_pos h
 have e := drop_at s 0 h0
 rw [List.drop_zero] at e
 conv => lhs; rw [e]
 rw [UInt8.toNat_inj.1 (begins_one h h0)]
theorem part_bad {s : ByteArray} {c : UInt8} (h : begins s.data.toList c.toNat = true) (hn : identN (s.extract 1 s.size).data.toList = 0) : part c s.data.toList = none := by
 rw [drop_data] at hn
 rw [begins_list h, part, if_pos rfl, if_pos hn]
theorem part_is {s : ByteArray} {c : UInt8} (h : begins s.data.toList c.toNat = true) (hn : identN (s.extract 1 s.size).data.toList ≠ 0) :
  part c s.data.toList = some ((s.extract 1 (1 + identN (s.extract 1 s.size).data.toList)).data.toList, (s.extract (1 + identN (s.extract 1 s.size).data.toList) s.size).data.toList) := by
 rw [drop_data] at hn
 rw [drop_data, drop_data]
 have e1 : ∀ n, (s.extract 1 (1 + n)).data.toList = (s.data.toList.drop 1).take n := by
  intro n
  rw [ByteArray.data_extract, Array.toList_extract]
  simp only [List.extract_eq_take_drop]
  rw [show 1 + n - 1 = n by omega]
 rw [e1, ← List.drop_drop]
 have e := begins_list h
 generalize s.data.toList.drop 1 = q at *
 rw [e, part, if_pos rfl, if_neg hn]
theorem readV_pre {s : ByteArray} {ns : List Nat} {r : List UInt8} (h : nums 3 [] (bare0 s.data.toList) = some (ns, r)) (h2 : part 45 r = none) : readV s = none := by unfold readV; rw [h]; simp only; rw [h2]
theorem readV_mt {s : ByteArray} {ns : List Nat} {r pre r1 : List UInt8} (h : nums 3 [] (bare0 s.data.toList) = some (ns, r)) (h2 : part 45 r = some (pre, r1)) (h3 : part 43 r1 = none) : readV s = none := by unfold readV; rw [h]; simp only; rw [h2]; simp only; rw [h3]
theorem readV_rest {s : ByteArray} {ns : List Nat} {r pre r1 mt r2 : List UInt8} (h : nums 3 [] (bare0 s.data.toList) = some (ns, r)) (h2 : part 45 r = some (pre, r1)) (h3 : part 43 r1 = some (mt, r2)) (h4 : r2 ≠ []) : readV s = none := by
 unfold readV; rw [h]; simp only; rw [h2]; simp only; rw [h3]; simp only; rw [if_neg h4]
theorem readV_ok {s : ByteArray} {ns : List Nat} {r pre r1 mt r2 : List UInt8} (h : nums 3 [] (bare0 s.data.toList) = some (ns, r)) (h2 : part 45 r = some (pre, r1)) (h3 : part 43 r1 = some (mt, r2)) (h4 : r2 = []) :
  readV s = some (⟨(ns.getD 0 0 : Nat), (ns.getD 1 0 : Nat), (ns.getD 2 0 : Nat), ⟨pre.toArray⟩, ⟨mt.toArray⟩, s⟩, ns.length) := by
 unfold readV; rw [h]; simp only; rw [h2]; simp only; rw [h3]; simp only; rw [if_pos h4]
theorem list_nil {s : ByteArray} (h : s.size = 0) : s.data.toList = [] := List.length_eq_zero_iff.1 (by rw [Array.length_toList]; exact h)
theorem list_some {s : ByteArray} (h : 0 < s.size) : s.data.toList ≠ [] := fun e => by
 have h1 : s.data.toList.length = s.size := Array.length_toList
 rw [e, List.length_nil] at h1
 omega
theorem readEnd_good {s : ByteArray} {w w' : World} {v : SV} {k : Nat} (h : readV s = some (v, k)) (hb : Below w.heap.size w w') : ReadEnd s w (.returned (.tuple #[.agg v.cells, .int .i64 (k : Int), .nilIface])) w' := by
 refine ⟨hb, ?_⟩
 rw [h]
theorem numOf_zero {l : List UInt8} (h : digN l = 0) : numOf l = none := by unfold numOf; rw [if_pos h]
theorem numOf_bad {l : List UInt8} (h : ∀ u, Lib.parseUintB 64 (l.take (digN l)) ≠ .ok u) : numOf l = none := by
 unfold numOf
 split
 ·rfl
 ·split
  ·rename_i u hu; exact absurd hu (h u)
  ·rfl
theorem numOf_ok {l : List UInt8} {u : Nat} (h0 : digN l ≠ 0) (h : Lib.parseUintB 64 (l.take (digN l)) = .ok u) : numOf l = some (u, l.drop (digN l)) := by
 unfold numOf
 rw [if_neg h0, h]
theorem nums_none {m : Nat} {acc : List Nat} {l : List UInt8} (h : numOf l = none) : nums (m + 1) acc l = none := by rw [nums, h]
theorem nums_stop {m : Nat} {acc : List Nat} {l r : List UInt8} {u : Nat} (h : numOf l = some (u, r)) (hs : goOn r = false ∨ m = 0) : nums (m + 1) acc l = some (acc ++ [u], r) := by
 rw [nums, h]
 rcases hs with hs | hs
 ·simp [hs]
 ·simp [hs]
theorem nums_on {m : Nat} {acc : List Nat} {l r : List UInt8} {u : Nat} (h : numOf l = some (u, r)) (hs : goOn r = true) (hm : 0 < m) : nums (m + 1) acc l = nums m (acc ++ [u]) (r.drop 1) := by
 rw [nums, h]
 simp [hs, hm]
theorem goOn_begins (l : List UInt8) : goOn l = begins l 46 := by
 cases l with
 | nil => rfl
 | cons c r =>
  simp only [goOn, begins]
  by_cases h : c = 46
  ·subst h; rfl
  ·rw [beq_eq_false_iff_ne.2 h, beq_eq_false_iff_ne.2 (fun e => h (UInt8.toNat_inj.1 (by rw [e]; rfl)))]
set_option maxRecDepth 20000 in
set_option maxHeartbeats 4000000 in
theorem read_any (s : ByteArray) (hs : s.size ≤ 2147483647) (w : World) (hv : Vars w) : Calls Tryz.prog 143 #[.string s] w (ReadEnd s w) := by
 go_enter Tryz.func143, Tryz.ntmps143
 go_upto_region 3 with (go_at_call 144; ((with_reducible refine (new_any _ _).mono ?_); rintro e w1 ⟨rfl, rfl⟩))
 go_cut [26] from 20 to 26 (fun v26 wx => v26 = .bool (begins s.data.toList 118) ∧ Aside0 (Own w wx 0 0 0 ⟨#[]⟩ ⟨#[]⟩ s))
 case first =>
  rcases Nat.eq_zero_or_pos s.size with h0 | h0
  ·have hem := isEmpty_true h0
   have hbg := begins_nil (c := 118) h0
   go_wp2_with fail
   go_meet
   case rel => exact ⟨by rw [hbg], ⟨own_start w _ s⟩⟩
  ·have hem := isEmpty_false h0
   have hbg := begins_at (c := 118) h0
   rw [← cast_beq] at hbg
   have HBG := Lib.hid hbg
   clear hbg
   go_wp2_with fail
   go_meet
   case rel => exact ⟨by rw [HBG.out]; rfl, ⟨own_start w _ s⟩⟩
 case rest =>
  obtain ⟨rfl, HO⟩ := hcut
  go_upto_if 26 with fail
  go_cut [7] from 26 to 28 (fun v7 wx => ∃ r : ByteArray, v7 = .string r ∧ r.size ≤ 2147483647 ∧ r.data.toList = bare0 s.data.toList ∧ Aside0 (Own w wx 0 0 0 ⟨#[]⟩ ⟨#[]⟩ s))
  case first =>
   cases hq : begins s.data.toList 118 with
   | false =>
    go_wp2_with fail
    go_meet
    case rel => exact ⟨s, rfl, hs, bare0_of_not hq, HO⟩
   | true =>
    have h0 := begins_pos hq
    go_wp2_with fail
    go_meet
    case rel => exact ⟨_, rfl, by simp only [ByteArray.size_extract]; omega, bare0_v h0 (begins_one hq h0), HO⟩
  case rest =>
   obtain ⟨r, rfl, hr, hrl, HO⟩ := hcut
   have HRL := Lib.hid hrl
   have HNE := Lib.hid (show wc.heap.size ≠ w.heap.size + 1 + 1 from Nat.ne_of_gt (blk_lt HO.out.ver))
   have HV := Lib.hid hv
   clear hrl hv
   go_upto_block 0 with fail
   go_cut [7, 8, 10, 11, 12, 13] from 34 to 92 (fun v7 v8 _ _ _ _ wx => ∃ (r1 : ByteArray) (ns : List Nat), v7 = .string r1 ∧ v8 = .int .i64 (ns.length : Int) ∧ r1.size ≤ 2147483647 ∧ Aside0 (nums 3 [] r.data.toList = some (ns, r1.data.toList)) ∧ Aside0 (Own w wx (ns.getD 0 0 : Nat) (ns.getD 1 0 : Nat) (ns.getD 2 0 : Nat) ⟨#[]⟩ ⟨#[]⟩ s))
   case first =>
    go_wp2_with fail
    go_loopw [7, 8, 34] (fun v7 v8 v34 wr => ∃ (r1 : ByteArray) (acc : List Nat), v7 = .string r1 ∧ v8 = .int .i64 (acc.length : Int) ∧ v34 = .int .i64 (acc.length : Int) ∧ acc.length ≤ 2 ∧ r1.size ≤ 2147483647 ∧ Aside0 (nums (3 - acc.length) acc r1.data.toList = nums 3 [] r.data.toList) ∧ Aside0 (Own w wr (acc.getD 0 0 : Nat) (acc.getD 1 0 : Nat) (acc.getD 2 0 : Nat) ⟨#[]⟩ ⟨#[]⟩ s) ∧ Aside0 (wr.heap[wc.heap.size]? = some (.cells #[.pointer (some ⟨w.heap.size + 1 + 1, 0, none⟩), .pointer (some ⟨w.heap.size + 1 + 1, 1, none⟩), .pointer (some ⟨w.heap.size + 1 + 1, 2, none⟩)] 255 (0, 0)))) (fun _ _ v34 _ => 3 - (intOf v34).toNat)
    case atStart => exact ⟨r, [], rfl, rfl, rfl, by simp, hr, ⟨rfl⟩, ⟨HO.out.below (below_alloc (Below.refl _ _) _)⟩, ⟨alloc_at _ _⟩⟩
    case round =>
     clear HO
     obtain ⟨r1, acc, rfl, hv8, hv34, hk, hr1, HN, HO, HP⟩ := hrel
     have hacc : acc = [] ∨ (∃ a, acc = [a]) ∨ ∃ a b, acc = [a, b] := three_of hk
     clear hk
     rcases hacc with rfl | ⟨a, rfl⟩ | ⟨a, b, rfl⟩ <;> simp only [List.length_nil, List.length_cons] at hv8 hv34
     all_goals
      subst hv8 hv34
     ·-- number 0
      have hp := blk_cell HP.out 0
      go_upto_block 2 with fail
      go_cut [11] from 38 to 55 (fun v11 wx => v11 = .int .i64 ((digN r1.data.toList : Nat) : Int) ∧ Aside0 (Own w wx ([].getD 0 0 : Nat) ([].getD 1 0 : Nat) ([].getD 2 0 : Nat) ⟨#[]⟩ ⟨#[]⟩ s) ∧ Aside0 (wx.heap[wc.heap.size]? = some (.cells #[.pointer (some ⟨w.heap.size + 1 + 1, 0, none⟩), .pointer (some ⟨w.heap.size + 1 + 1, 1, none⟩), .pointer (some ⟨w.heap.size + 1 + 1, 2, none⟩)] 255 (0, 0))))
      case first =>
       clear hp
       go_wp2_with fail
       go_loopw [11] (fun v11 wr2 => ∃ i : Nat, v11 = .int .i64 (i : Int) ∧ i ≤ r1.size ∧ Aside0 (digN r1.data.toList = i + digN (r1.data.toList.drop i)) ∧ Aside0 (Own w wr2 ([].getD 0 0 : Nat) ([].getD 1 0 : Nat) ([].getD 2 0 : Nat) ⟨#[]⟩ ⟨#[]⟩ s) ∧ Aside0 (wr2.heap[wc.heap.size]? = some (.cells #[.pointer (some ⟨w.heap.size + 1 + 1, 0, none⟩), .pointer (some ⟨w.heap.size + 1 + 1, 1, none⟩), .pointer (some ⟨w.heap.size + 1 + 1, 2, none⟩)] 255 (0, 0)))) (fun v11 _ => r1.size - (intOf v11).toNat)
       case atStart => exact ⟨0, rfl, by omega, ⟨by simp⟩, HO, HP⟩
       case round =>
        obtain ⟨i, rfl, hi, HD, HO, HP⟩ := hrel
        by_cases hlt : i < r1.size
        ·have HS := Lib.hid (digN_step hlt)
         by_cases q1 : 48 ≤ (r1[i]).toNat
         ·by_cases q2 : (r1[i]).toNat ≤ 57
          ·have q3 : decide ((48 : Int) ≤ ((r1[i]).toNat : Int)) = true := decide_eq_true (by omega)
           have q4 : decide (((r1[i]).toNat : Int) ≤ 57) = true := decide_eq_true (by omega)
           have HD2 := Aside0.mk (show digN r1.data.toList = (i + 1) + digN (r1.data.toList.drop (i + 1)) by rw [HD.out, HS.out, if_pos ⟨q1, q2⟩]; omega)
           clear q1 q2
           go_wp2_with fail
           go_roundw
           case rel => exact ⟨i + 1, by simp, by omega, HD2, HO, HP⟩
           case measure => simp [intOf]; omega
          ·have q3 : decide ((48 : Int) ≤ ((r1[i]).toNat : Int)) = true := decide_eq_true (by omega)
           have q4 : decide (((r1[i]).toNat : Int) ≤ 57) = false := decide_eq_false (by omega)
           have HE := Aside0.mk (show digN r1.data.toList = i by rw [HD.out, HS.out, if_neg (fun h => q2 h.2)]; omega)
           clear q1 q2
           go_wp2_with fail
           go_meet
           case rel => exact ⟨by rw [HE.out], HO, HP⟩
         ·have q3 : decide ((48 : Int) ≤ ((r1[i]).toNat : Int)) = false := decide_eq_false (by omega)
          have HE := Aside0.mk (show digN r1.data.toList = i by rw [HD.out, HS.out, if_neg (fun h => q1 h.1)]; omega)
          clear q1
          go_wp2_with fail
          go_meet
          case rel => exact ⟨by rw [HE.out], HO, HP⟩
        ·have HE := Aside0.mk (show digN r1.data.toList = i by rw [HD.out, digN_end hlt]; omega)
         go_wp2_with fail
         go_meet
         case rel => exact ⟨by rw [HE.out], HO, HP⟩
      case rest =>
       clear hp HO HP
       obtain ⟨rfl, HO, HP⟩ := hcut
       have hnl := digN_le r1.data.toList
       have hnl2 : digN r1.data.toList ≤ r1.size := by
        have e : r1.data.toList.length = r1.size := Array.length_toList
        omega
       clear hnl
       by_cases hn0 : digN r1.data.toList = 0
       ·have HBAD := Lib.hid (readV_none (s := s) (by rw [← HRL.out, ← HN.out]; exact nums_none (m := 2) (numOf_zero hn0)))
        have q0 : (((digN r1.data.toList : Nat) : Int) == 0) = true := by rw [hn0]; rfl
        clear hn0
        generalize digN r1.data.toList = n at *
        have r0 := blk_cell (HO.out).res 0
        have t0 := blk_frozen (HO.out).res 0
        have r1 := blk_cell (HO.out).res 1
        have t1 := blk_frozen (HO.out).res 1
        have r2 := blk_cell (HO.out).res 2
        have t2 := blk_frozen (HO.out).res 2
        have r3 := blk_cell (HO.out).res 3
        have t3 := blk_frozen (HO.out).res 3
        have r4 := blk_cell (HO.out).res 4
        have t4 := blk_frozen (HO.out).res 4
        have r5 := blk_cell (HO.out).res 5
        have t5 := blk_frozen (HO.out).res 5
        go_wp2_with fail
        refine bodyPost_ret (v := .tuple #[.agg zSV, .int .i64 0, .iface 260 (.pointer (some ⟨w.heap.size + 1, 0, none⟩))]) (by simp [results, Tryz.results143, go_sem, *]) rfl (readEnd_bad HBAD.out ?_)
        exact ((((((HO.out.bel).setCell (Nat.le_refl _) _).setCell (Nat.le_refl _) _).setCell (Nat.le_refl _) _).setCell (Nat.le_refl _) _).setCell (Nat.le_refl _) _).setCell (Nat.le_refl _) _
       ·have q0 : (((digN r1.data.toList : Nat) : Int) == 0) = false := by rw [beq_eq_false_iff_ne]; omega
        have HU := Lib.hid (fun (u : Nat) (h : Lib.parseUintB 64 (r1.extract 0 (digN r1.data.toList)).data.toList = .ok u) => numOf_ok (l := r1.data.toList) hn0 (by rw [take_data] at h; exact h))
        have HW := Lib.hid (fun (h : ∀ u : Nat, Lib.parseUintB 64 (r1.extract 0 (digN r1.data.toList)).data.toList ≠ .ok u) => numOf_bad (l := r1.data.toList) (by rw [take_data] at h; exact h))
        have HDD := Lib.hid (drop_data r1 (digN r1.data.toList))
        have hcut := cut_from r1 (digN r1.data.toList) hnl2
        have CU := Lib.hid (uint_any (r1.extract 0 (digN r1.data.toList)) (by simp only [ByteArray.size_extract]; omega) wc (HV.out.below HO.out.bel))
        clear hn0
        have hms : (r1.extract (digN r1.data.toList) r1.size).size ≤ 2147483647 := by simp only [ByteArray.size_extract]; omega
        generalize digN r1.data.toList = n at *
        go_wp2_with (first | (go_at_call 152; ((with_reducible refine CU.out.mono ?_); rintro e w5 ⟨nn, err, rfl, hb, hor⟩; refine Hid.out ?_)))
        have HO5 := Aside0.mk (HO.out.below hb)
        have HP5 := Aside0.mk (blk_below HP.out hb)
        have HOR := Lib.hid hor
        clear hb hor CU
        rcases HOR.out with ⟨u, rfl, hu, rfl⟩ | ⟨hno, tt, ad, rfl⟩
        ·have HNU := Lib.hid (HU.out u hu)
         clear hu HOR HU HW
         have x0 := blk_cell HO5.out.ver 0
         have y0 := blk_frozen HO5.out.ver 0
         have HO6 := Aside0.mk (HO5.out.put0 (u : Int))
         have HP6 := Aside0.mk (blk_far HP5.out (p := ⟨w.heap.size + 1 + 1, 0, none⟩) HNE.out (.int .u64 (u : Int)))
         generalize r1.extract n r1.size = m at *
         have HMS := Lib.hid hms
         clear hnl2
         rcases Nat.eq_zero_or_pos m.size with hm0 | hm0
         ·have hem := isEmpty_true hm0
          have HR := Aside0.mk (show nums 3 [] r.data.toList = some ([u], m.data.toList) by rw [← HN.out]; exact nums_stop (m := 2) (by rw [HNU.out, ← HDD.out]) (.inl (by rw [goOn_begins, begins_nil hm0])))
          clear HP5 HP6
          refine Lib.hid ?_
          go_wp2_with fail
          go_meet
          case rel => exact ⟨m, [u], rfl, by simp, HMS.out, HR, HO6⟩
         ·have hem := isEmpty_false hm0
          have hbg := begins_at (c := 46) hm0
          by_cases hq : (m[0]).toNat = 46
          ·have qn : (((m[0]).toNat : Int) != 46) = false := by rw [bne_eq_false_iff_eq]; omega
           have HR := Aside0.mk (show nums 2 [u] (m.extract 1 m.size).data.toList = nums 3 [] r.data.toList by rw [← HN.out, drop_data]; exact (nums_on (acc := []) (m := 2) (by rw [HNU.out, ← HDD.out]) (by rw [goOn_begins, hbg, hq]; rfl) (by omega)).symm)
           clear HP5 hq hbg
           refine Lib.hid ?_
           go_wp2_with fail
           go_roundw
           case rel => exact ⟨_, [u], rfl, by simp, by simp, by simp, by simp only [ByteArray.size_extract]; omega, HR, HO6, HP6⟩
           case measure => simp [intOf]
          ·have qn : (((m[0]).toNat : Int) != 46) = true := by rw [bne_iff_ne]; omega
           have HR := Aside0.mk (show nums 3 [] r.data.toList = some ([u], m.data.toList) by rw [← HN.out]; exact nums_stop (m := 2) (by rw [HNU.out, ← HDD.out]) (.inl (by rw [goOn_begins, hbg]; exact beq_eq_false_iff_ne.2 hq)))
           clear HP5 HP6 hq hbg
           refine Lib.hid ?_
           go_wp2_with fail
           go_meet
           case rel => exact ⟨m, [u], rfl, by simp, HMS.out, HR, HO6⟩
        ·have HBAD := Lib.hid (readV_none (s := s) (by rw [← HRL.out, ← HN.out]; exact nums_none (m := 2) (HW.out hno)))
         clear hno HOR HU HW
         have r0 := blk_cell (HO5.out).res 0
         have t0 := blk_frozen (HO5.out).res 0
         have r1 := blk_cell (HO5.out).res 1
         have t1 := blk_frozen (HO5.out).res 1
         have r2 := blk_cell (HO5.out).res 2
         have t2 := blk_frozen (HO5.out).res 2
         have r3 := blk_cell (HO5.out).res 3
         have t3 := blk_frozen (HO5.out).res 3
         have r4 := blk_cell (HO5.out).res 4
         have t4 := blk_frozen (HO5.out).res 4
         have r5 := blk_cell (HO5.out).res 5
         have t5 := blk_frozen (HO5.out).res 5
         refine Lib.hid ?_
         go_wp2_with fail
         refine bodyPost_ret (v := .tuple #[.agg zSV, .int .i64 0, .iface 260 (.pointer (some ⟨w.heap.size + 1, 0, none⟩))]) (by simp [results, Tryz.results143, go_sem, *]) rfl (readEnd_bad HBAD.out ?_)
         exact ((((((HO5.out.bel).setCell (Nat.le_refl _) _).setCell (Nat.le_refl _) _).setCell (Nat.le_refl _) _).setCell (Nat.le_refl _) _).setCell (Nat.le_refl _) _).setCell (Nat.le_refl _) _
     ·-- number 1
      have hp := blk_cell HP.out 1
      go_upto_block 2 with fail
      go_cut [11] from 38 to 55 (fun v11 wx => v11 = .int .i64 ((digN r1.data.toList : Nat) : Int) ∧ Aside0 (Own w wx ([a].getD 0 0 : Nat) ([a].getD 1 0 : Nat) ([a].getD 2 0 : Nat) ⟨#[]⟩ ⟨#[]⟩ s) ∧ Aside0 (wx.heap[wc.heap.size]? = some (.cells #[.pointer (some ⟨w.heap.size + 1 + 1, 0, none⟩), .pointer (some ⟨w.heap.size + 1 + 1, 1, none⟩), .pointer (some ⟨w.heap.size + 1 + 1, 2, none⟩)] 255 (0, 0))))
      case first =>
       clear hp
       go_wp2_with fail
       go_loopw [11] (fun v11 wr2 => ∃ i : Nat, v11 = .int .i64 (i : Int) ∧ i ≤ r1.size ∧ Aside0 (digN r1.data.toList = i + digN (r1.data.toList.drop i)) ∧ Aside0 (Own w wr2 ([a].getD 0 0 : Nat) ([a].getD 1 0 : Nat) ([a].getD 2 0 : Nat) ⟨#[]⟩ ⟨#[]⟩ s) ∧ Aside0 (wr2.heap[wc.heap.size]? = some (.cells #[.pointer (some ⟨w.heap.size + 1 + 1, 0, none⟩), .pointer (some ⟨w.heap.size + 1 + 1, 1, none⟩), .pointer (some ⟨w.heap.size + 1 + 1, 2, none⟩)] 255 (0, 0)))) (fun v11 _ => r1.size - (intOf v11).toNat)
       case atStart => exact ⟨0, rfl, by omega, ⟨by simp⟩, HO, HP⟩
       case round =>
        obtain ⟨i, rfl, hi, HD, HO, HP⟩ := hrel
        by_cases hlt : i < r1.size
        ·have HS := Lib.hid (digN_step hlt)
         by_cases q1 : 48 ≤ (r1[i]).toNat
         ·by_cases q2 : (r1[i]).toNat ≤ 57
          ·have q3 : decide ((48 : Int) ≤ ((r1[i]).toNat : Int)) = true := decide_eq_true (by omega)
           have q4 : decide (((r1[i]).toNat : Int) ≤ 57) = true := decide_eq_true (by omega)
           have HD2 := Aside0.mk (show digN r1.data.toList = (i + 1) + digN (r1.data.toList.drop (i + 1)) by rw [HD.out, HS.out, if_pos ⟨q1, q2⟩]; omega)
           clear q1 q2
           go_wp2_with fail
           go_roundw
           case rel => exact ⟨i + 1, by simp, by omega, HD2, HO, HP⟩
           case measure => simp [intOf]; omega
          ·have q3 : decide ((48 : Int) ≤ ((r1[i]).toNat : Int)) = true := decide_eq_true (by omega)
           have q4 : decide (((r1[i]).toNat : Int) ≤ 57) = false := decide_eq_false (by omega)
           have HE := Aside0.mk (show digN r1.data.toList = i by rw [HD.out, HS.out, if_neg (fun h => q2 h.2)]; omega)
           clear q1 q2
           go_wp2_with fail
           go_meet
           case rel => exact ⟨by rw [HE.out], HO, HP⟩
         ·have q3 : decide ((48 : Int) ≤ ((r1[i]).toNat : Int)) = false := decide_eq_false (by omega)
          have HE := Aside0.mk (show digN r1.data.toList = i by rw [HD.out, HS.out, if_neg (fun h => q1 h.1)]; omega)
          clear q1
          go_wp2_with fail
          go_meet
          case rel => exact ⟨by rw [HE.out], HO, HP⟩
        ·have HE := Aside0.mk (show digN r1.data.toList = i by rw [HD.out, digN_end hlt]; omega)
         go_wp2_with fail
         go_meet
         case rel => exact ⟨by rw [HE.out], HO, HP⟩
      case rest =>
       clear hp HO HP
       obtain ⟨rfl, HO, HP⟩ := hcut
       have hnl := digN_le r1.data.toList
       have hnl2 : digN r1.data.toList ≤ r1.size := by
        have e : r1.data.toList.length = r1.size := Array.length_toList
        omega
       clear hnl
       by_cases hn0 : digN r1.data.toList = 0
       ·have HBAD := Lib.hid (readV_none (s := s) (by rw [← HRL.out, ← HN.out]; exact nums_none (m := 1) (numOf_zero hn0)))
        have q0 : (((digN r1.data.toList : Nat) : Int) == 0) = true := by rw [hn0]; rfl
        clear hn0
        generalize digN r1.data.toList = n at *
        have r0 := blk_cell (HO.out).res 0
        have t0 := blk_frozen (HO.out).res 0
        have r1 := blk_cell (HO.out).res 1
        have t1 := blk_frozen (HO.out).res 1
        have r2 := blk_cell (HO.out).res 2
        have t2 := blk_frozen (HO.out).res 2
        have r3 := blk_cell (HO.out).res 3
        have t3 := blk_frozen (HO.out).res 3
        have r4 := blk_cell (HO.out).res 4
        have t4 := blk_frozen (HO.out).res 4
        have r5 := blk_cell (HO.out).res 5
        have t5 := blk_frozen (HO.out).res 5
        go_wp2_with fail
        refine bodyPost_ret (v := .tuple #[.agg zSV, .int .i64 0, .iface 260 (.pointer (some ⟨w.heap.size + 1, 0, none⟩))]) (by simp [results, Tryz.results143, go_sem, *]) rfl (readEnd_bad HBAD.out ?_)
        exact ((((((HO.out.bel).setCell (Nat.le_refl _) _).setCell (Nat.le_refl _) _).setCell (Nat.le_refl _) _).setCell (Nat.le_refl _) _).setCell (Nat.le_refl _) _).setCell (Nat.le_refl _) _
       ·have q0 : (((digN r1.data.toList : Nat) : Int) == 0) = false := by rw [beq_eq_false_iff_ne]; omega
        have HU := Lib.hid (fun (u : Nat) (h : Lib.parseUintB 64 (r1.extract 0 (digN r1.data.toList)).data.toList = .ok u) => numOf_ok (l := r1.data.toList) hn0 (by rw [take_data] at h; exact h))
        have HW := Lib.hid (fun (h : ∀ u : Nat, Lib.parseUintB 64 (r1.extract 0 (digN r1.data.toList)).data.toList ≠ .ok u) => numOf_bad (l := r1.data.toList) (by rw [take_data] at h; exact h))
        have HDD := Lib.hid (drop_data r1 (digN r1.data.toList))
        have hcut := cut_from r1 (digN r1.data.toList) hnl2
        have CU := Lib.hid (uint_any (r1.extract 0 (digN r1.data.toList)) (by simp only [ByteArray.size_extract]; omega) wc (HV.out.below HO.out.bel))
        clear hn0
        have hms : (r1.extract (digN r1.data.toList) r1.size).size ≤ 2147483647 := by simp only [ByteArray.size_extract]; omega
        generalize digN r1.data.toList = n at *
        go_wp2_with (first | (go_at_call 152; ((with_reducible refine CU.out.mono ?_); rintro e w5 ⟨nn, err, rfl, hb, hor⟩; refine Hid.out ?_)))
        have HO5 := Aside0.mk (HO.out.below hb)
        have HP5 := Aside0.mk (blk_below HP.out hb)
        have HOR := Lib.hid hor
        clear hb hor CU
        rcases HOR.out with ⟨u, rfl, hu, rfl⟩ | ⟨hno, tt, ad, rfl⟩
        ·have HNU := Lib.hid (HU.out u hu)
         clear hu HOR HU HW
         have x0 := blk_cell HO5.out.ver 1
         have y0 := blk_frozen HO5.out.ver 1
         have HO6 := Aside0.mk (HO5.out.put1 (u : Int))
         have HP6 := Aside0.mk (blk_far HP5.out (p := ⟨w.heap.size + 1 + 1, 1, none⟩) HNE.out (.int .u64 (u : Int)))
         generalize r1.extract n r1.size = m at *
         have HMS := Lib.hid hms
         clear hnl2
         rcases Nat.eq_zero_or_pos m.size with hm0 | hm0
         ·have hem := isEmpty_true hm0
          have HR := Aside0.mk (show nums 3 [] r.data.toList = some ([a, u], m.data.toList) by rw [← HN.out]; exact nums_stop (m := 1) (by rw [HNU.out, ← HDD.out]) (.inl (by rw [goOn_begins, begins_nil hm0])))
          clear HP5 HP6
          refine Lib.hid ?_
          go_wp2_with fail
          go_meet
          case rel => exact ⟨m, [a, u], rfl, by simp, HMS.out, HR, HO6⟩
         ·have hem := isEmpty_false hm0
          have hbg := begins_at (c := 46) hm0
          by_cases hq : (m[0]).toNat = 46
          ·have qn : (((m[0]).toNat : Int) != 46) = false := by rw [bne_eq_false_iff_eq]; omega
           have HR := Aside0.mk (show nums 1 [a, u] (m.extract 1 m.size).data.toList = nums 3 [] r.data.toList by rw [← HN.out, drop_data]; exact (nums_on (acc := [a]) (m := 1) (by rw [HNU.out, ← HDD.out]) (by rw [goOn_begins, hbg, hq]; rfl) (by omega)).symm)
           clear HP5 hq hbg
           refine Lib.hid ?_
           go_wp2_with fail
           go_roundw
           case rel => exact ⟨_, [a, u], rfl, by simp, by simp, by simp, by simp only [ByteArray.size_extract]; omega, HR, HO6, HP6⟩
           case measure => simp [intOf]
          ·have qn : (((m[0]).toNat : Int) != 46) = true := by rw [bne_iff_ne]; omega
           have HR := Aside0.mk (show nums 3 [] r.data.toList = some ([a, u], m.data.toList) by rw [← HN.out]; exact nums_stop (m := 1) (by rw [HNU.out, ← HDD.out]) (.inl (by rw [goOn_begins, hbg]; exact beq_eq_false_iff_ne.2 hq)))
           clear HP5 HP6 hq hbg
           refine Lib.hid ?_
           go_wp2_with fail
           go_meet
           case rel => exact ⟨m, [a, u], rfl, by simp, HMS.out, HR, HO6⟩
        ·have HBAD := Lib.hid (readV_none (s := s) (by rw [← HRL.out, ← HN.out]; exact nums_none (m := 1) (HW.out hno)))
         clear hno HOR HU HW
         have r0 := blk_cell (HO5.out).res 0
         have t0 := blk_frozen (HO5.out).res 0
         have r1 := blk_cell (HO5.out).res 1
         have t1 := blk_frozen (HO5.out).res 1
         have r2 := blk_cell (HO5.out).res 2
         have t2 := blk_frozen (HO5.out).res 2
         have r3 := blk_cell (HO5.out).res 3
         have t3 := blk_frozen (HO5.out).res 3
         have r4 := blk_cell (HO5.out).res 4
         have t4 := blk_frozen (HO5.out).res 4
         have r5 := blk_cell (HO5.out).res 5
         have t5 := blk_frozen (HO5.out).res 5
         refine Lib.hid ?_
         go_wp2_with fail
         refine bodyPost_ret (v := .tuple #[.agg zSV, .int .i64 0, .iface 260 (.pointer (some ⟨w.heap.size + 1, 0, none⟩))]) (by simp [results, Tryz.results143, go_sem, *]) rfl (readEnd_bad HBAD.out ?_)
         exact ((((((HO5.out.bel).setCell (Nat.le_refl _) _).setCell (Nat.le_refl _) _).setCell (Nat.le_refl _) _).setCell (Nat.le_refl _) _).setCell (Nat.le_refl _) _).setCell (Nat.le_refl _) _
     ·-- number 2
      have hp := blk_cell HP.out 2
      go_upto_block 2 with fail
      go_cut [11] from 38 to 55 (fun v11 wx => v11 = .int .i64 ((digN r1.data.toList : Nat) : Int) ∧ Aside0 (Own w wx ([a, b].getD 0 0 : Nat) ([a, b].getD 1 0 : Nat) ([a, b].getD 2 0 : Nat) ⟨#[]⟩ ⟨#[]⟩ s) ∧ Aside0 (wx.heap[wc.heap.size]? = some (.cells #[.pointer (some ⟨w.heap.size + 1 + 1, 0, none⟩), .pointer (some ⟨w.heap.size + 1 + 1, 1, none⟩), .pointer (some ⟨w.heap.size + 1 + 1, 2, none⟩)] 255 (0, 0))))
      case first =>
       clear hp
       go_wp2_with fail
       go_loopw [11] (fun v11 wr2 => ∃ i : Nat, v11 = .int .i64 (i : Int) ∧ i ≤ r1.size ∧ Aside0 (digN r1.data.toList = i + digN (r1.data.toList.drop i)) ∧ Aside0 (Own w wr2 ([a, b].getD 0 0 : Nat) ([a, b].getD 1 0 : Nat) ([a, b].getD 2 0 : Nat) ⟨#[]⟩ ⟨#[]⟩ s) ∧ Aside0 (wr2.heap[wc.heap.size]? = some (.cells #[.pointer (some ⟨w.heap.size + 1 + 1, 0, none⟩), .pointer (some ⟨w.heap.size + 1 + 1, 1, none⟩), .pointer (some ⟨w.heap.size + 1 + 1, 2, none⟩)] 255 (0, 0)))) (fun v11 _ => r1.size - (intOf v11).toNat)
       case atStart => exact ⟨0, rfl, by omega, ⟨by simp⟩, HO, HP⟩
       case round =>
        obtain ⟨i, rfl, hi, HD, HO, HP⟩ := hrel
        by_cases hlt : i < r1.size
        ·have HS := Lib.hid (digN_step hlt)
         by_cases q1 : 48 ≤ (r1[i]).toNat
         ·by_cases q2 : (r1[i]).toNat ≤ 57
          ·have q3 : decide ((48 : Int) ≤ ((r1[i]).toNat : Int)) = true := decide_eq_true (by omega)
           have q4 : decide (((r1[i]).toNat : Int) ≤ 57) = true := decide_eq_true (by omega)
           have HD2 := Aside0.mk (show digN r1.data.toList = (i + 1) + digN (r1.data.toList.drop (i + 1)) by rw [HD.out, HS.out, if_pos ⟨q1, q2⟩]; omega)
           clear q1 q2
           go_wp2_with fail
           go_roundw
           case rel => exact ⟨i + 1, by simp, by omega, HD2, HO, HP⟩
           case measure => simp [intOf]; omega
          ·have q3 : decide ((48 : Int) ≤ ((r1[i]).toNat : Int)) = true := decide_eq_true (by omega)
           have q4 : decide (((r1[i]).toNat : Int) ≤ 57) = false := decide_eq_false (by omega)
           have HE := Aside0.mk (show digN r1.data.toList = i by rw [HD.out, HS.out, if_neg (fun h => q2 h.2)]; omega)
           clear q1 q2
           go_wp2_with fail
           go_meet
           case rel => exact ⟨by rw [HE.out], HO, HP⟩
         ·have q3 : decide ((48 : Int) ≤ ((r1[i]).toNat : Int)) = false := decide_eq_false (by omega)
          have HE := Aside0.mk (show digN r1.data.toList = i by rw [HD.out, HS.out, if_neg (fun h => q1 h.1)]; omega)
          clear q1
          go_wp2_with fail
          go_meet
          case rel => exact ⟨by rw [HE.out], HO, HP⟩
        ·have HE := Aside0.mk (show digN r1.data.toList = i by rw [HD.out, digN_end hlt]; omega)
         go_wp2_with fail
         go_meet
         case rel => exact ⟨by rw [HE.out], HO, HP⟩
      case rest =>
       clear hp HO HP
       obtain ⟨rfl, HO, HP⟩ := hcut
       have hnl := digN_le r1.data.toList
       have hnl2 : digN r1.data.toList ≤ r1.size := by
        have e : r1.data.toList.length = r1.size := Array.length_toList
        omega
       clear hnl
       by_cases hn0 : digN r1.data.toList = 0
       ·have HBAD := Lib.hid (readV_none (s := s) (by rw [← HRL.out, ← HN.out]; exact nums_none (m := 0) (numOf_zero hn0)))
        have q0 : (((digN r1.data.toList : Nat) : Int) == 0) = true := by rw [hn0]; rfl
        clear hn0
        generalize digN r1.data.toList = n at *
        have r0 := blk_cell (HO.out).res 0
        have t0 := blk_frozen (HO.out).res 0
        have r1 := blk_cell (HO.out).res 1
        have t1 := blk_frozen (HO.out).res 1
        have r2 := blk_cell (HO.out).res 2
        have t2 := blk_frozen (HO.out).res 2
        have r3 := blk_cell (HO.out).res 3
        have t3 := blk_frozen (HO.out).res 3
        have r4 := blk_cell (HO.out).res 4
        have t4 := blk_frozen (HO.out).res 4
        have r5 := blk_cell (HO.out).res 5
        have t5 := blk_frozen (HO.out).res 5
        go_wp2_with fail
        refine bodyPost_ret (v := .tuple #[.agg zSV, .int .i64 0, .iface 260 (.pointer (some ⟨w.heap.size + 1, 0, none⟩))]) (by simp [results, Tryz.results143, go_sem, *]) rfl (readEnd_bad HBAD.out ?_)
        exact ((((((HO.out.bel).setCell (Nat.le_refl _) _).setCell (Nat.le_refl _) _).setCell (Nat.le_refl _) _).setCell (Nat.le_refl _) _).setCell (Nat.le_refl _) _).setCell (Nat.le_refl _) _
       ·have q0 : (((digN r1.data.toList : Nat) : Int) == 0) = false := by rw [beq_eq_false_iff_ne]; omega
        have HU := Lib.hid (fun (u : Nat) (h : Lib.parseUintB 64 (r1.extract 0 (digN r1.data.toList)).data.toList = .ok u) => numOf_ok (l := r1.data.toList) hn0 (by rw [take_data] at h; exact h))
        have HW := Lib.hid (fun (h : ∀ u : Nat, Lib.parseUintB 64 (r1.extract 0 (digN r1.data.toList)).data.toList ≠ .ok u) => numOf_bad (l := r1.data.toList) (by rw [take_data] at h; exact h))
        have HDD := Lib.hid (drop_data r1 (digN r1.data.toList))
        have hcut := cut_from r1 (digN r1.data.toList) hnl2
        have CU := Lib.hid (uint_any (r1.extract 0 (digN r1.data.toList)) (by simp only [ByteArray.size_extract]; omega) wc (HV.out.below HO.out.bel))
        clear hn0
        have hms : (r1.extract (digN r1.data.toList) r1.size).size ≤ 2147483647 := by simp only [ByteArray.size_extract]; omega
        generalize digN r1.data.toList = n at *
        go_wp2_with (first | (go_at_call 152; ((with_reducible refine CU.out.mono ?_); rintro e w5 ⟨nn, err, rfl, hb, hor⟩; refine Hid.out ?_)))
        have HO5 := Aside0.mk (HO.out.below hb)
        have HP5 := Aside0.mk (blk_below HP.out hb)
        have HOR := Lib.hid hor
        clear hb hor CU
        rcases HOR.out with ⟨u, rfl, hu, rfl⟩ | ⟨hno, tt, ad, rfl⟩
        ·have HNU := Lib.hid (HU.out u hu)
         clear hu HOR HU HW
         have x0 := blk_cell HO5.out.ver 2
         have y0 := blk_frozen HO5.out.ver 2
         have HO6 := Aside0.mk (HO5.out.put2 (u : Int))
         have HP6 := Aside0.mk (blk_far HP5.out (p := ⟨w.heap.size + 1 + 1, 2, none⟩) HNE.out (.int .u64 (u : Int)))
         generalize r1.extract n r1.size = m at *
         have HMS := Lib.hid hms
         clear hnl2
         rcases Nat.eq_zero_or_pos m.size with hm0 | hm0
         ·have hem := isEmpty_true hm0
          have HR := Aside0.mk (show nums 3 [] r.data.toList = some ([a, b, u], m.data.toList) by rw [← HN.out]; exact nums_stop (m := 0) (by rw [HNU.out, ← HDD.out]) (.inl (by rw [goOn_begins, begins_nil hm0])))
          clear HP5 HP6
          refine Lib.hid ?_
          go_wp2_with fail
          go_meet
          case rel => exact ⟨m, [a, b, u], rfl, by simp, HMS.out, HR, HO6⟩
         ·have hem := isEmpty_false hm0
          have hbg := begins_at (c := 46) hm0
          by_cases hq : (m[0]).toNat = 46
          ·have qn : (((m[0]).toNat : Int) != 46) = false := by rw [bne_eq_false_iff_eq]; omega
           have HR := Aside0.mk (show nums 3 [] r.data.toList = some ([a, b, u], m.data.toList) by rw [← HN.out]; exact nums_stop (m := 0) (by rw [HNU.out, ← HDD.out]) (.inr rfl))
           clear HP5 HP6 hq hbg
           refine Lib.hid ?_
           go_wp2_with fail
           go_meet
           case rel => exact ⟨m, [a, b, u], rfl, by simp, HMS.out, HR, HO6⟩
          ·have qn : (((m[0]).toNat : Int) != 46) = true := by rw [bne_iff_ne]; omega
           have HR := Aside0.mk (show nums 3 [] r.data.toList = some ([a, b, u], m.data.toList) by rw [← HN.out]; exact nums_stop (m := 0) (by rw [HNU.out, ← HDD.out]) (.inl (by rw [goOn_begins, hbg]; exact beq_eq_false_iff_ne.2 hq)))
           clear HP5 HP6 hq hbg
           refine Lib.hid ?_
           go_wp2_with fail
           go_meet
           case rel => exact ⟨m, [a, b, u], rfl, by simp, HMS.out, HR, HO6⟩
        ·have HBAD := Lib.hid (readV_none (s := s) (by rw [← HRL.out, ← HN.out]; exact nums_none (m := 0) (HW.out hno)))
         clear hno HOR HU HW
         have r0 := blk_cell (HO5.out).res 0
         have t0 := blk_frozen (HO5.out).res 0
         have r1 := blk_cell (HO5.out).res 1
         have t1 := blk_frozen (HO5.out).res 1
         have r2 := blk_cell (HO5.out).res 2
         have t2 := blk_frozen (HO5.out).res 2
         have r3 := blk_cell (HO5.out).res 3
         have t3 := blk_frozen (HO5.out).res 3
         have r4 := blk_cell (HO5.out).res 4
         have t4 := blk_frozen (HO5.out).res 4
         have r5 := blk_cell (HO5.out).res 5
         have t5 := blk_frozen (HO5.out).res 5
         refine Lib.hid ?_
         go_wp2_with fail
         refine bodyPost_ret (v := .tuple #[.agg zSV, .int .i64 0, .iface 260 (.pointer (some ⟨w.heap.size + 1, 0, none⟩))]) (by simp [results, Tryz.results143, go_sem, *]) rfl (readEnd_bad HBAD.out ?_)
         exact ((((((HO5.out.bel).setCell (Nat.le_refl _) _).setCell (Nat.le_refl _) _).setCell (Nat.le_refl _) _).setCell (Nat.le_refl _) _).setCell (Nat.le_refl _) _).setCell (Nat.le_refl _) _
   case rest =>
    clear HO
    obtain ⟨r1, ns, rfl, rfl, hr1, HR, HO⟩ := hcut
    go_upto_region 23 with fail
    go_cut [99] from 93 to 99 (fun v wx => v = .bool (begins r1.data.toList 45) ∧ Aside0 (Own w wx (ns.getD 0 0 : Nat) (ns.getD 1 0 : Nat) (ns.getD 2 0 : Nat) ⟨#[]⟩ ⟨#[]⟩ s))
    case first =>
     rcases Nat.eq_zero_or_pos r1.size with h0 | h0
     ·have hem := isEmpty_true h0
      have hbg := begins_nil (c := 45) h0
      go_wp2_with fail
      go_meet
      case rel => exact ⟨by rw [hbg], HO⟩
     ·have hem := isEmpty_false h0
      have hbg := begins_at (c := 45) h0
      rw [← cast_beq] at hbg
      have HBG := Lib.hid hbg
      clear hbg
      go_wp2_with fail
      go_meet
      case rel => exact ⟨by rw [HBG.out]; rfl, HO⟩
    case rest =>
     clear HO
     obtain ⟨rfl, HO⟩ := hcut
     go_upto_if 99 with fail
     go_cut [7, 14] from 99 to 114 (fun v7 _ wx => ∃ (r2 : ByteArray) (pre : List UInt8), v7 = .string r2 ∧ r2.size ≤ 2147483647 ∧ Aside0 (part 45 r1.data.toList = some (pre, r2.data.toList)) ∧ Aside0 (Own w wx (ns.getD 0 0 : Nat) (ns.getD 1 0 : Nat) (ns.getD 2 0 : Nat) ⟨pre.toArray⟩ ⟨#[]⟩ s))
     case first =>
      cases hq : begins r1.data.toList 45 with
      | false =>
       have HPN := Aside0.mk (part_not (c := 45) hq)
       go_wp2_with fail
       go_meet
       case rel => exact ⟨r1, [], rfl, hr1, HPN, HO⟩
      | true =>
       have h0 := begins_pos hq
       have hc0 := cut_from r1 1 (by omega)
       have hxs : (r1.extract 1 r1.size).size = r1.size - 1 := by simp only [ByteArray.size_extract]; omega
       have HI := Lib.hid (ident_any (r1.extract 1 r1.size) (by omega))
       have hnl := ident_size (r1.extract 1 r1.size)
       have HPP := Lib.hid (part_is (s := r1) (c := 45) hq)
       have HP0 := Lib.hid (part_bad (s := r1) (c := 45) hq)
       generalize identN (r1.extract 1 r1.size).data.toList = n at *
       by_cases hn0 : n = 0
       ·have HNN := Lib.hid (HP0.out hn0)
        have HBAD := Lib.hid (show readV s = none from readV_pre (by rw [← HRL.out]; exact HR.out) HNN.out)
        have q0 : ((n : Int) == 0) = true := by rw [hn0]; rfl
        clear hn0 hq
        have r0 := blk_cell (HO.out).res 0
        have t0 := blk_frozen (HO.out).res 0
        have r1 := blk_cell (HO.out).res 1
        have t1 := blk_frozen (HO.out).res 1
        have r2 := blk_cell (HO.out).res 2
        have t2 := blk_frozen (HO.out).res 2
        have r3 := blk_cell (HO.out).res 3
        have t3 := blk_frozen (HO.out).res 3
        have r4 := blk_cell (HO.out).res 4
        have t4 := blk_frozen (HO.out).res 4
        have r5 := blk_cell (HO.out).res 5
        have t5 := blk_frozen (HO.out).res 5
        go_wp2_with (first | (go_at_call 153; ((with_reducible refine (HI.out _).mono ?_); rintro e w5 ⟨rfl, nd, rfl⟩)))
        refine bodyPost_ret (v := .tuple #[.agg zSV, .int .i64 0, .iface 260 (.pointer (some ⟨w.heap.size + 1, 0, none⟩))]) (by simp [results, Tryz.results143, go_sem, *]) rfl (readEnd_bad HBAD.out ?_)
        exact ((((((pw_below_drewN HO.out.bel nd).setCell (Nat.le_refl _) _).setCell (Nat.le_refl _) _).setCell (Nat.le_refl _) _).setCell (Nat.le_refl _) _).setCell (Nat.le_refl _) _).setCell (Nat.le_refl _) _
       ·have HPN := Aside0.mk (HPP.out hn0)
        have q0 : ((n : Int) == 0) = false := by rw [beq_eq_false_iff_ne]; omega
        have hs1 := cut_mid r1 1 (1 + n) (by omega) (by omega)
        have hs2 := cut_from r1 (1 + n) (by omega)
        rw [show ((1 + n : Nat) : Int) = 1 + (n : Int) by omega] at hs1 hs2
        rw [show ((1 : Nat) : Int) = 1 from rfl] at hs1 hc0
        have hp2 : (r1.extract (1 + n) r1.size).size ≤ 2147483647 := by simp only [ByteArray.size_extract]; omega
        have x0 := blk_cell HO.out.ver 3
        have y0 := blk_frozen HO.out.ver 3
        clear hn0 hq HPP HP0
        generalize r1.extract 1 (1 + n) = p1 at *
        generalize r1.extract (1 + n) r1.size = p2 at *
        have HO2 := Aside0.mk (HO.out.put3 p1)
        have HSZ := Lib.hid hp2
        clear hp2
        go_wp2_with (first | (go_at_call 153; ((with_reducible refine (HI.out _).mono ?_); rintro e w5 ⟨rfl, nd, rfl⟩)))
        go_region
        all_goals
         go_wp2_with fail
         go_meet
         case rel => exact ⟨p2, p1.data.toList, rfl, HSZ.out, HPN, ⟨by rw [back_bytes]; exact (HO.out.drewN (nd + 1)).put3 p1⟩⟩
     case rest =>
      clear HO
      obtain ⟨r2, pre, rfl, hr2, HP1, HO⟩ := hcut
      go_upto_region 28 with fail
      go_cut [122] from 116 to 122 (fun v wx => v = .bool (begins r2.data.toList 43) ∧ Aside0 (Own w wx (ns.getD 0 0 : Nat) (ns.getD 1 0 : Nat) (ns.getD 2 0 : Nat) ⟨pre.toArray⟩ ⟨#[]⟩ s))
      case first =>
       rcases Nat.eq_zero_or_pos r2.size with h0 | h0
       ·have hem := isEmpty_true h0
        have hbg := begins_nil (c := 43) h0
        go_wp2_with fail
        go_meet
        case rel => exact ⟨by rw [hbg], HO⟩
       ·have hem := isEmpty_false h0
        have hbg := begins_at (c := 43) h0
        rw [← cast_beq] at hbg
        have HBG := Lib.hid hbg
        clear hbg
        go_wp2_with fail
        go_meet
        case rel => exact ⟨by rw [HBG.out]; rfl, HO⟩
      case rest =>
       clear HO
       obtain ⟨rfl, HO⟩ := hcut
       go_upto_if 122 with fail
       go_cut [7, 15] from 122 to 137 (fun v7 _ wx => ∃ (r3 : ByteArray) (mt : List UInt8), v7 = .string r3 ∧ r3.size ≤ 2147483647 ∧ Aside0 (part 43 r2.data.toList = some (mt, r3.data.toList)) ∧ Aside0 (Own w wx (ns.getD 0 0 : Nat) (ns.getD 1 0 : Nat) (ns.getD 2 0 : Nat) ⟨pre.toArray⟩ ⟨mt.toArray⟩ s))
       case first =>
        cases hq : begins r2.data.toList 43 with
        | false =>
         have HPN := Aside0.mk (part_not (c := 43) hq)
         go_wp2_with fail
         go_meet
         case rel => exact ⟨r2, [], rfl, hr2, HPN, HO⟩
        | true =>
         have h0 := begins_pos hq
         have hc0 := cut_from r2 1 (by omega)
         have hxs : (r2.extract 1 r2.size).size = r2.size - 1 := by simp only [ByteArray.size_extract]; omega
         have HI := Lib.hid (ident_any (r2.extract 1 r2.size) (by omega))
         have hnl := ident_size (r2.extract 1 r2.size)
         have HPP := Lib.hid (part_is (s := r2) (c := 43) hq)
         have HP0 := Lib.hid (part_bad (s := r2) (c := 43) hq)
         generalize identN (r2.extract 1 r2.size).data.toList = n at *
         by_cases hn0 : n = 0
         ·have HNN := Lib.hid (HP0.out hn0)
          have HBAD := Lib.hid (show readV s = none from readV_mt (by rw [← HRL.out]; exact HR.out) HP1.out HNN.out)
          have q0 : ((n : Int) == 0) = true := by rw [hn0]; rfl
          clear hn0 hq
          have r0 := blk_cell (HO.out).res 0
          have t0 := blk_frozen (HO.out).res 0
          have r1 := blk_cell (HO.out).res 1
          have t1 := blk_frozen (HO.out).res 1
          have r2 := blk_cell (HO.out).res 2
          have t2 := blk_frozen (HO.out).res 2
          have r3 := blk_cell (HO.out).res 3
          have t3 := blk_frozen (HO.out).res 3
          have r4 := blk_cell (HO.out).res 4
          have t4 := blk_frozen (HO.out).res 4
          have r5 := blk_cell (HO.out).res 5
          have t5 := blk_frozen (HO.out).res 5
          go_wp2_with (first | (go_at_call 153; ((with_reducible refine (HI.out _).mono ?_); rintro e w5 ⟨rfl, nd, rfl⟩)))
          refine bodyPost_ret (v := .tuple #[.agg zSV, .int .i64 0, .iface 260 (.pointer (some ⟨w.heap.size + 1, 0, none⟩))]) (by simp [results, Tryz.results143, go_sem, *]) rfl (readEnd_bad HBAD.out ?_)
          exact ((((((pw_below_drewN HO.out.bel nd).setCell (Nat.le_refl _) _).setCell (Nat.le_refl _) _).setCell (Nat.le_refl _) _).setCell (Nat.le_refl _) _).setCell (Nat.le_refl _) _).setCell (Nat.le_refl _) _
         ·have HPN := Aside0.mk (HPP.out hn0)
          have q0 : ((n : Int) == 0) = false := by rw [beq_eq_false_iff_ne]; omega
          have hs1 := cut_mid r2 1 (1 + n) (by omega) (by omega)
          have hs2 := cut_from r2 (1 + n) (by omega)
          rw [show ((1 + n : Nat) : Int) = 1 + (n : Int) by omega] at hs1 hs2
          rw [show ((1 : Nat) : Int) = 1 from rfl] at hs1 hc0
          have hp2 : (r2.extract (1 + n) r2.size).size ≤ 2147483647 := by simp only [ByteArray.size_extract]; omega
          have x0 := blk_cell HO.out.ver 4
          have y0 := blk_frozen HO.out.ver 4
          clear hn0 hq HPP HP0
          generalize r2.extract 1 (1 + n) = p1 at *
          generalize r2.extract (1 + n) r2.size = p2 at *
          have HO2 := Aside0.mk (HO.out.put4 p1)
          have HSZ := Lib.hid hp2
          clear hp2
          go_wp2_with (first | (go_at_call 153; ((with_reducible refine (HI.out _).mono ?_); rintro e w5 ⟨rfl, nd, rfl⟩)))
          go_region
          all_goals
           go_wp2_with fail
           go_meet
           case rel => exact ⟨p2, p1.data.toList, rfl, HSZ.out, HPN, ⟨by rw [back_bytes]; exact (HO.out.drewN (nd + 1)).put4 p1⟩⟩
       case rest =>
        clear HO
        obtain ⟨r3, mt, rfl, hr3, HP2, HO⟩ := hcut
        rcases Nat.eq_zero_or_pos r3.size with h0 | h0
        ·have hem := isEmpty_true h0
         have HG := Lib.hid (readV_ok (s := s) (by rw [← HRL.out]; exact HR.out) HP1.out HP2.out (list_nil h0))
         have r0 := blk_cell (HO.out).res 0
         have t0 := blk_frozen (HO.out).res 0
         have r1 := blk_cell (HO.out).res 1
         have t1 := blk_frozen (HO.out).res 1
         have r2 := blk_cell (HO.out).res 2
         have t2 := blk_frozen (HO.out).res 2
         have r3 := blk_cell (HO.out).res 3
         have t3 := blk_frozen (HO.out).res 3
         have r4 := blk_cell (HO.out).res 4
         have t4 := blk_frozen (HO.out).res 4
         have r5 := blk_cell (HO.out).res 5
         have t5 := blk_frozen (HO.out).res 5
         have z0 := blk_cell HO.out.ver 0
         have z1 := blk_cell HO.out.ver 1
         have z2 := blk_cell HO.out.ver 2
         have z3 := blk_cell HO.out.ver 3
         have z4 := blk_cell HO.out.ver 4
         have z5 := blk_cell HO.out.ver 5
         clear h0
         generalize ns.getD 0 0 = n0 at *
         generalize ns.getD 1 0 = n1 at *
         generalize ns.getD 2 0 = n2 at *
         generalize (⟨pre.toArray⟩ : ByteArray) = pp at *
         generalize (⟨mt.toArray⟩ : ByteArray) = mm at *
         go_wp2_with fail
         refine bodyPost_ret (v := .tuple #[.agg #[.int .u64 (n0 : Int), .int .u64 (n1 : Int), .int .u64 (n2 : Int), .string pp, .string mm, .string s], .int .i64 (ns.length : Int), .nilIface]) (by simp [results, Tryz.results143, go_sem, *]) rfl (readEnd_good HG.out ?_)
         exact ((((((HO.out.bel).setCell (Nat.le_refl _) _).setCell (Nat.le_refl _) _).setCell (Nat.le_refl _) _).setCell (Nat.le_refl _) _).setCell (Nat.le_refl _) _).setCell (Nat.le_refl _) _
        ·have hem := isEmpty_false h0
         have HBAD := Lib.hid (readV_rest (s := s) (by rw [← HRL.out]; exact HR.out) HP1.out HP2.out (list_some h0))
         have r0 := blk_cell (HO.out).res 0
         have t0 := blk_frozen (HO.out).res 0
         have r1 := blk_cell (HO.out).res 1
         have t1 := blk_frozen (HO.out).res 1
         have r2 := blk_cell (HO.out).res 2
         have t2 := blk_frozen (HO.out).res 2
         have r3 := blk_cell (HO.out).res 3
         have t3 := blk_frozen (HO.out).res 3
         have r4 := blk_cell (HO.out).res 4
         have t4 := blk_frozen (HO.out).res 4
         have r5 := blk_cell (HO.out).res 5
         have t5 := blk_frozen (HO.out).res 5
         clear h0
         go_wp2_with fail
         refine bodyPost_ret (v := .tuple #[.agg zSV, .int .i64 0, .iface 260 (.pointer (some ⟨w.heap.size + 1, 0, none⟩))]) (by simp [results, Tryz.results143, go_sem, *]) rfl (readEnd_bad HBAD.out ?_)
         exact ((((((HO.out.bel).setCell (Nat.le_refl _) _).setCell (Nat.le_refl _) _).setCell (Nat.le_refl _) _).setCell (Nat.le_refl _) _).setCell (Nat.le_refl _) _).setCell (Nat.le_refl _) _
end Go.Proofs.YtgoeiflddikihaaGreatDoor.Ver
end
