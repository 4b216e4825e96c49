/- Merged by program out of: VPq, Vsl, Vsl2, VRead, SemP, VVer, VId. -/
import Derived.Test.YtgoeiflddikihaaGreatDoorCsoM6
import Derived.Test.YtgoeiflddikihaaGreatDoorCsoM3
import Derived.Deep.AppendSrc
import Derived.Test.YtgoeiflddikihaaGreatDoorCsoM7
import Derived.Test.YtgoeiflddikihaaGreatDoorCsoM2
import Derived.Lib.ParseIntB
import Derived.Deep.CutBlock
import Derived.Deep.CutRange
import Derived.Deep.DeepCutAuto
import Derived.WalkLawsBesides
import Derived.Deep.QuietTactic
import Derived.BigQuiet
section
namespace Go.Proofs.YtgoeiflddikihaaGreatDoor.PFnVersion
open Go.RowKit Go.Proofs.YtgoeiflddikihaaGreatDoorW.PrintWords Go.Proofs.YtgoeiflddikihaaGreatDoorW.PrintLast Go.Proofs.YtgoeiflddikihaaGreatDoorW.PrintMore
attribute [local go_sem] max2_int min2_int max_two min_two max_three min_three max_four min_four   -- for this text's walks alone
set_option linter.unusedVariables false
set_option linter.unusedSimpArgs false
structure S27 where
  f0 : Int
  f1 : ByteArray
  f2 : ByteArray
def k27 : Kd S27 := Kd.iso (Kd.pair (Kd.int .i64) (Kd.pair Kd.string Kd.string)) (fun x : S27 => (x.f0, x.f1, x.f2))
theorem k27_mkM (w : World) (base : Nat) (ok : Nat → Prop) (x : S27)  : k27.M w base ok x [.int .i64 x.f0, .string x.f1, .string x.f2] := ⟨[.int .i64 x.f0], [.string x.f1, .string x.f2], rfl, rfl, ⟨[.string x.f1], [.string x.f2], rfl, rfl, rfl⟩⟩
structure S30 where
  f0 : Int
  f1 : ByteArray
  f2 : ByteArray
theorem eqA30 (d : Nat) (w : World) (x0 y0 : Int) (x1 y1 : ByteArray) (x2 y2 : ByteArray) :
    (Op.equalIn (d + 2) 30 (.agg #[.int .i64 x0, .string x1, .string x2]) (.agg #[.int .i64 y0, .string y1, .string y2])).run Tryz.prog w = .ok (x0 == y0 && (x1.toList == y1.toList && (x2.toList == y2.toList))) w := by
  refine eqA_of Tryz.underlying30 (by kernel_rfl) ?_
  refine eqf_cons (by rfl) (by go_simp; rfl) (by go_simp; rfl) (by go_simp) ?_
  refine eqf_cons (by rfl) (by go_simp; rfl) (by go_simp; rfl) (by go_simp) ?_
  exact eqf_last (by rfl) (by go_simp; rfl) (by go_simp; rfl) (by go_simp)
end Go.Proofs.YtgoeiflddikihaaGreatDoor.PFnVersion
end
section
namespace Go.Proofs.YtgoeiflddikihaaGreatDoor.Mem
set_option linter.unusedSimpArgs false
set_option linter.unusedVariables false
open Go.RowKit Go.Proofs.YtgoeiflddikihaaGreatDoorW.PrintWords Go.Proofs.YtgoeiflddikihaaGreatDoor.PFnVersion
def c3 (x : S30) : List Value := [.int .i64 x.f0, .string x.f1, .string x.f2]
def flat3 (l : List S30) : List Value := l.flatMap c3
theorem flat3_len (l : List S30) : (flat3 l).length = l.length * 3 := by
  induction l with
  | nil => rfl
  | cons x l ih => show (c3 x ++ flat3 l).length = _; rw [List.length_append, ih, List.length_cons]; show 3 + _ = _; omega
theorem flat3_app (a b : List S30) : flat3 (a ++ b) = flat3 a ++ flat3 b := by unfold flat3; rw [List.flatMap_append]
theorem flat3_one : ∀ l : List S30, ∀ u ∈ flat3 l, u.oneCell' = true := by
  intro l u hu
  unfold flat3 at hu
  obtain ⟨x, _, hx⟩ := List.mem_flatMap.1 hu
  simp [c3] at hx
  rcases hx with rfl | rfl | rfl <;> rfl
theorem flat3_drop (l : List S30) (k : Nat) : (flat3 l).drop (k * 3) = flat3 (l.drop k) := by
  by_cases h : k ≤ l.length
  · have e := List.take_append_drop k l
    have h2 : flat3 l = flat3 (l.take k) ++ flat3 (l.drop k) := by rw [← flat3_app, e]
    rw [h2, List.drop_append_of_le_length (by rw [flat3_len, List.length_take]; omega), List.drop_eq_nil_of_le (by rw [flat3_len, List.length_take]; omega)]
    rfl
  · rw [List.drop_eq_nil_of_le (by rw [flat3_len]; omega), List.drop_eq_nil_of_le (by omega)]; rfl
theorem flat3_at (l : List S30) (j : Nat) (h : j < l.length) : (flat3 l)[j * 3]? = some (.int .i64 l[j].f0) ∧ (flat3 l)[j * 3 + 1]? = some (.string l[j].f1) ∧ (flat3 l)[j * 3 + 2]? = some (.string l[j].f2) := by
  have h2 := flat3_drop l j
  rw [List.drop_eq_getElem_cons h] at h2
  have h3 : ∀ i, (flat3 l)[j * 3 + i]? = (c3 l[j] ++ flat3 (l.drop (j + 1)))[i]? := fun i => by
    rw [← List.getElem?_drop, h2]; rfl
  exact ⟨h3 0, h3 1, h3 2⟩
def VOk (out : List S30) (v : Value) (X : List Blk) : Prop :=
  (v = .slice none 0 0 ∧ out = [] ∧ X = []) ∨ ∃ g cap rest, v = .slice (some ⟨g, 0, none⟩) out.length cap ∧ out.length ≤ cap ∧ cap ≤ maxLen ∧ X = [(g, flat3 out ++ rest, 30)]
theorem VOk.val {out : List S30} {v : Value} {X : List Blk} (h : VOk out v X) : ∃ A cap, v = .slice A out.length cap ∧ out.length ≤ cap ∧ cap ≤ maxLen := by
  rcases h with ⟨rfl, rfl, _⟩ | ⟨g, cap, rest, rfl, h, h2, _⟩
  · exact ⟨_, _, rfl, Nat.le_refl _, Nat.zero_le _⟩
  · exact ⟨_, _, rfl, h, h2⟩
theorem VOk.elem {out : List S30} {v : Value} {X L : List Blk} {w0 w : World} (h : VOk out v X) (H : Blks w0 w L) (hs : ∀ x ∈ X, x ∈ L) (hne : out ≠ []) : ∃ g cap, v = .slice (some ⟨g, 0, none⟩) out.length cap ∧
    ∀ j (hj : j < out.length), w.cell? ⟨g, j * 3, none⟩ = some (.int .i64 out[j].f0) ∧ w.cell? ⟨g, j * 3 + 1, none⟩ = some (.string out[j].f1) ∧ w.cell? ⟨g, j * 3 + 2, none⟩ = some (.string out[j].f2) := by
  rcases h with ⟨_, rfl, _⟩ | ⟨g, cap, rest, rfl, h, _, rfl⟩
  · exact absurd rfl hne
  · refine ⟨g, cap, rfl, fun j hj => ?_⟩
    have hb := H.has _ (hs _ (List.mem_singleton.2 rfl))
    have hl := flat3_len out
    have key : ∀ i u, (flat3 out)[i]? = some u → w.cell? ⟨g, i, none⟩ = some u := by
      intro i u hu
      rw [cell_of_row w g i _ _ (0, 0) hb, ← Array.getElem?_toList]
      have : i < (flat3 out).length := (List.getElem?_eq_some_iff.1 hu).1
      rw [List.getElem?_append_left this]; exact hu
    obtain ⟨h0, h1, h2⟩ := flat3_at out j hj
    exact ⟨key _ _ h0, key _ _ h1, key _ _ h2⟩
def tailV (A : Option Addr) (n cap k : Nat) : Value := .slice (if cap = k then A else A.map (·.add (k * 3))) (n - k) (cap - k)
end Go.Proofs.YtgoeiflddikihaaGreatDoor.Mem
end
section
namespace Go.Proofs.YtgoeiflddikihaaGreatDoor.Mem
set_option linter.unusedSimpArgs false
set_option linter.unusedVariables false
open Go.RowKit Go.Proofs.YtgoeiflddikihaaGreatDoorW.PrintWords Go.Proofs.YtgoeiflddikihaaGreatDoor.PFnVersion
theorem Blks.reads {w0 w : World} {L : List Blk} (H : Blks w0 w L) {g : Nat} {cs rest : List Value} {t : TypeId} (hm : (g, cs ++ rest, t) ∈ L) : ∀ j u, cs[j]? = some u → w.cell? ⟨g, j, none⟩ = some u := by
  intro i u hu
  have hb := H.has _ hm
  rw [cell_of_row w g i _ _ (0, 0) hb, ← Array.getElem?_toList]
  have : i < cs.length := (List.getElem?_eq_some_iff.1 hu).1
  rw [List.getElem?_append_left this]; exact hu
theorem add0 (g o j : Nat) : (⟨g, o, none⟩ : Addr).add j = ⟨g, o + j, none⟩ := Addr.add_mid g o j
theorem VOk.src {out : List S30} {X L : List Blk} {w0 w : World} {A : Option Addr} {cap : Nat} (h : VOk out (.slice A out.length cap) X) (H : Blks w0 w L) (hs : ∀ x ∈ X, x ∈ L) (k : Nat) (hk : k ≤ out.length) :
    Src Tryz.prog 3 67 (tailV A out.length cap k) (out.length - k) (flat3 (out.drop k)) w := by
  have hu : Tryz.prog.underlying 67 = some (.slice 30) := Tryz.underlying67
  have hl : (flat3 (out.drop k)).length = (out.length - k) * 3 := by rw [flat3_len, List.length_drop]
  rcases h with ⟨h1, rfl, rfl⟩ | ⟨g, cp, rest, h1, h2, h3, rfl⟩
  · injection h1 with a1 a2 a3
    subst a1 a3
    obtain rfl : k = 0 := by simpa using hk
    exact Src.ofNil w hu 0
  · injection h1 with a1 a2 a3
    subst a1 a3
    have hm := hs _ (List.mem_singleton.2 rfl)
    unfold tailV
    by_cases hc : cap = k
    · rw [if_pos hc]
      have : out.length - k = 0 := by omega
      have hn : out.drop k = [] := List.drop_eq_nil_of_le (by omega)
      rw [hn, this]
      exact Src.ofSlice w hu _ 0 _ [] (by simp) (fun j u h => by simp at h) (fun u h => by cases h)
    · rw [if_neg hc]
      refine Src.ofSlice w hu _ _ _ _ hl (fun j u hj => ?_) (flat3_one _)
      show w.cell? (((⟨g, 0, none⟩ : Addr).add (k * 3)).add j) = some u
      rw [add0, add0]
      rw [← flat3_drop, List.getElem?_drop] at hj
      have := H.reads hm (k * 3 + j) u hj
      simpa using this
theorem VOk.nodup {out : List S30} {v : Value} {X : List Blk} (h : VOk out v X) : (X.map (·.1)).Nodup := by
  rcases h with ⟨_, _, rfl⟩ | ⟨g, cap, rest, _, _, _, rfl⟩ <;> simp
end Go.Proofs.YtgoeiflddikihaaGreatDoor.Mem
end
section
namespace Go.Proofs.YtgoeiflddikihaaGreatDoor.Ver
open Go.RowKit Go.Proofs.YtgoeiflddikihaaGreatDoor.Dig Go.Proofs.YtgoeiflddikihaaGreatDoorW.PrintWords
theorem new_any (s : ByteArray) (w : World) :
  Calls Tryz.prog 144 #[.string s] w fun e w' => e = .returned (.iface 260 (.pointer (some ⟨w.heap.size, 0, none⟩))) ∧ w' = w.alloc (.cells #[.string s] 262) := by
 go_enter Tryz.func144, Tryz.ntmps144
 go_wp2
 go_ret
 exact ⟨rfl, rfl⟩
def numOf (l : List UInt8) : Option (Nat × List UInt8) :=
 if digN l = 0 then none else match Lib.parseUintB 64 (l.take (digN l)) with
  | .ok u => some (u, l.drop (digN l))
  | _ => none
def goOn : List UInt8 → Bool
 | c :: _ => c == 46
 | [] => false
def nums : Nat → List Nat → List UInt8 → Option (List Nat × List UInt8)
 | 0, _, _ => none
 | m + 1, acc, l => match numOf l with
  | none => none
  | some (a, r) => if goOn r && decide (0 < m) then nums m (acc ++ [a]) (r.drop 1) else some (acc ++ [a], r)
def part (c : UInt8) : List UInt8 → Option (List UInt8 × List UInt8)
 | x :: r => if x = c then (if identN r = 0 then none else some (r.take (identN r), r.drop (identN r))) else some ([], x :: r)
 | [] => some ([], [])
def bare0 : List UInt8 → List UInt8
 | c :: r => if c = 118 then r else c :: r
 | [] => []
def readV (s : ByteArray) : Option (SV × Nat) :=
 match nums 3 [] (bare0 s.data.toList) with
 | none => none
 | some (ns, r) => match part 45 r with
  | none => none
  | some (pre, r1) => match part 43 r1 with
   | none => none
   | some (mt, r2) => if r2 = [] then some (⟨ns.getD 0 0, ns.getD 1 0, ns.getD 2 0, ⟨pre.toArray⟩, ⟨mt.toArray⟩, s⟩, ns.length) else none
abbrev zSV : Array Value := #[.int .u64 0, .int .u64 0, .int .u64 0, .string ⟨#[]⟩, .string ⟨#[]⟩, .string ⟨#[]⟩]
abbrev bSV (a b c : Int) (pre mt s : ByteArray) : Obj := .cells #[.int .u64 a, .int .u64 b, .int .u64 c, .string pre, .string mt, .string s] 197 (0, 0)
structure Own (w wx : World) (a b c : Int) (pre mt s : ByteArray) : Prop where
 bel : Below w.heap.size w wx
 res : wx.heap[w.heap.size]? = some (.cells zSV 197 (0, 0))
 ver : wx.heap[w.heap.size + 1 + 1]? = some (bSV a b c pre mt s)
theorem alloc_at (w : World) (o : Obj) : (w.alloc o).heap[w.heap.size]? = some o := by
 show (w.heap.push o)[w.heap.size]? = _
 simp
theorem alloc_size (w : World) (o : Obj) : (w.alloc o).heap.size = w.heap.size + 1 := by
 show (w.heap.push o).size = _
 simp
theorem own_start (w : World) (err : Obj) (s : ByteArray) : Own w (((w.alloc (.cells zSV 197)).alloc err).alloc (.cells #[.int .u64 0, .int .u64 0, .int .u64 0, .string ⟨#[]⟩, .string ⟨#[]⟩, .string s] 197)) 0 0 0 ⟨#[]⟩ ⟨#[]⟩ s := by
 have e1 := alloc_size w (.cells zSV 197)
 have e2 := alloc_size (w.alloc (.cells zSV 197)) err
 refine ⟨below_alloc (below_alloc (below_alloc (Below.refl _ _) _) _) _, ?_, ?_⟩
 ·rw [Below.heap_alloc _ _ _ (by omega), Below.heap_alloc _ _ _ (by omega)]; exact alloc_at w _
 ·rw [← e1, ← e2]; exact alloc_at _ _
theorem bare0_size (s : ByteArray) : (bare0 s.data.toList).length ≤ s.size := by
 have : s.data.toList.length = s.size := Array.length_toList
 cases h : s.data.toList with
 | nil => simp [bare0]
 | cons c r => rw [h] at this; simp only [bare0]; split <;> (simp at this ⊢; omega)
theorem bare0_v {s : ByteArray} (h : 0 < s.size) (hc : (s[0]).toNat = 118) : (s.extract 1 s.size).data.toList = bare0 s.data.toList := by
 have e := drop_at s 0 h
 rw [List.drop_zero] at e
 rw [e, bare0, if_pos (UInt8.toNat_inj.1 (by rw [hc]; rfl)), ByteArray.data_extract, Array.toList_extract]
 simp only [List.extract_eq_take_drop]
 rw [List.take_of_length_le (by rw [List.length_drop, Array.length_toList]; exact Nat.le_refl _)]
theorem bare0_not {s : ByteArray} (h : 0 < s.size) (hc : (s[0]).toNat ≠ 118) : s.data.toList = bare0 s.data.toList := by
 have e := drop_at s 0 h
 rw [List.drop_zero] at e
 rw [e, bare0, if_neg (fun e => hc (by rw [e]; rfl))]
theorem bare0_nil {s : ByteArray} (h : s.size = 0) : s.data.toList = bare0 s.data.toList := by
 have : s.data.toList = [] := List.length_eq_zero_iff.1 (by rw [Array.length_toList]; exact h)
 rw [this]; rfl
def begins (l : List UInt8) (c : Nat) : Bool := match l with
 | x :: _ => x.toNat == c
 | [] => false
theorem begins_nil {s : ByteArray} {c : Nat} (h : s.size = 0) : begins s.data.toList c = false := by
 have : s.data.toList = [] := List.length_eq_zero_iff.1 (by rw [Array.length_toList]; exact h)
 rw [this]; rfl
theorem begins_at {s : ByteArray} {c : Nat} (h : 0 < s.size) : begins s.data.toList c = ((s[0]).toNat == c) := by
 have e := drop_at s 0 h
 rw [List.drop_zero] at e
 rw [e]; rfl
theorem isEmpty_true {s : ByteArray} (h : s.size = 0) : s.toList.isEmpty = true := by
 have : s.data.toList = [] := List.length_eq_zero_iff.1 (by rw [Array.length_toList]; exact h)
 rw [ByteArray.toList_eq, this]; rfl
theorem isEmpty_false {s : ByteArray} (h : 0 < s.size) : s.toList.isEmpty = false := by
 have e := drop_at s 0 h
 rw [List.drop_zero] at e
 rw [ByteArray.toList_eq, e]; rfl
theorem begins_pos {s : ByteArray} {c : Nat} (h : begins s.data.toList c = true) : 0 < s.size := by
 rcases Nat.eq_zero_or_pos s.size with h0 | h0
 ·rw [begins_nil h0] at h; cases h
 ·exact h0
theorem begins_one {s : ByteArray} {c : Nat} (h : begins s.data.toList c = true) (h0 : 0 < s.size) : (s[0]).toNat = c := by
 rw [begins_at h0] at h
 exact beq_iff_eq.1 h
theorem bare0_of_not {s : ByteArray} (h : begins s.data.toList 118 = false) : s.data.toList = bare0 s.data.toList := by
 rcases Nat.eq_zero_or_pos s.size with h0 | h0
 ·exact bare0_nil h0
 ·rw [begins_at h0] at h
  exact bare0_not h0 (beq_eq_false_iff_ne.1 h)
theorem cast_beq (a b : Nat) : ((a : Int) == (b : Int)) = (a == b) := by
 by_cases h : a = b
 ·simp [h]
 ·rw [beq_eq_false_iff_ne.2 h, beq_eq_false_iff_ne]; omega
def ReadEnd (s : ByteArray) (w : World) (e : Ending) (w' : World) : Prop :=
 Below w.heap.size w w' ∧ match readV s with
  | none => ∃ a, e = .returned (.tuple #[.agg zSV, .int .i64 0, .iface 260 (.pointer (some a))])
  | some (v, k) => e = .returned (.tuple #[.agg v.cells, .int .i64 (k : Int), .nilIface])
theorem readEnd_bad {s : ByteArray} {w w' : World} {a : Addr} (h : readV s = none) (hb : Below w.heap.size w w') : ReadEnd s w (.returned (.tuple #[.agg zSV, .int .i64 0, .iface 260 (.pointer (some a))])) w' := by
 refine ⟨hb, ?_⟩
 rw [h]; exact ⟨a, rfl⟩
theorem readV_none {s : ByteArray} (h : nums 3 [] (bare0 s.data.toList) = none) : readV s = none := by unfold readV; rw [h]
theorem digN_le : ∀ l : List UInt8, digN l ≤ l.length
 | [] => Nat.le_refl _
 | c :: r => by simp only [digN]; split <;> simp [digN_le r]
theorem digN_step {s : ByteArray} {i : Nat} (h : i < s.size) : digN (s.data.toList.drop i) = if 48 ≤ (s[i]).toNat ∧ (s[i]).toNat ≤ 57 then digN (s.data.toList.drop (i + 1)) + 1 else 0 := by
 rw [drop_at s i h, digN]
 simp only [isDig, Bool.and_eq_true, decide_eq_true_eq]
theorem digN_end {s : ByteArray} {i : Nat} (h : ¬ i < s.size) : digN (s.data.toList.drop i) = 0 := by
 rw [List.drop_eq_nil_of_le (by rw [Array.length_toList]; exact Nat.not_lt.1 h)]
 rfl
theorem take_data (s : ByteArray) (n : Nat) : (s.extract 0 n).data.toList = s.data.toList.take n := by
 rw [ByteArray.data_extract, Array.toList_extract]
 simp only [List.extract_eq_take_drop]
 simp
theorem drop_data (s : ByteArray) (n : Nat) : (s.extract n s.size).data.toList = s.data.toList.drop n := by
 rw [ByteArray.data_extract, Array.toList_extract]
 simp only [List.extract_eq_take_drop]
 rw [List.take_of_length_le (by rw [List.length_drop, Array.length_toList]; exact Nat.le_refl _)]
theorem uint_any (s : ByteArray) (hs : s.size ≤ 2147483647) (w : World) (hv : Vars w) : Calls Tryz.prog 152 #[.string s, .int .i64 10, .int .i64 64] w fun e w' => ∃ (n : Int) (err : Value), e = .returned (.tuple #[.int .u64 n, err]) ∧ Below w.heap.size w w' ∧
  ((∃ u : Nat, n = u ∧ Lib.parseUintB 64 s.data.toList = .ok u ∧ err = .nilIface) ∨ ((∀ u, Lib.parseUintB 64 s.data.toList ≠ .ok u) ∧ ∃ t a, err = .iface t (.pointer (some a)))) := by
 obtain ⟨⟨t1, p1, h1⟩, ⟨t2, p2, h2⟩, h3⟩ := hv
 rcases h : Lib.parseUintB 64 s.data.toList with v | _ | _
 ·refine (Tryz.strconv_ParseUint_10_at64_ok s (by omega) v h w).mono ?_
  rintro e w' ⟨rfl, hw⟩
  refine ⟨v, .nilIface, rfl, ?_, .inl ⟨v, rfl, rfl, rfl⟩⟩
  rcases hw with rfl | rfl
  ·exact Below.refl _ _
  ·exact Lib.bytesWorld_below _ _ _
 ·refine (Tryz.strconv_ParseUint_10_at64_syntax_var s (by omega) h t1 p1 w h1).mono ?_
  rintro e w' ⟨N, rfl, _, _, hb⟩
  exact ⟨_, _, rfl, hb, .inr ⟨(fun u e => by cases e), _, _, rfl⟩⟩
 ·refine (Tryz.strconv_ParseUint_10_at64_range_var s (by omega) h t2 p2 w h2).mono ?_
  rintro e w' ⟨N, rfl, _, _, hb⟩
  exact ⟨_, _, rfl, hb, .inr ⟨(fun u e => by cases e), _, _, rfl⟩⟩
theorem Own.below {w wx wy : World} {a b c : Int} {pre mt s : ByteArray} (h : Own w wx a b c pre mt s) (hb : Below wx.heap.size wx wy) : Own w wy a b c pre mt s :=
 ⟨below_step h.bel hb, blk_below h.res hb, blk_below h.ver hb⟩
theorem Own.drewN {w wx : World} {a b c : Int} {pre mt s : ByteArray} (h : Own w wx a b c pre mt s) (n : Nat) : Own w (wx.drewN n) a b c pre mt s := h.below (pw_below_drewN (Below.refl _ _) n)
theorem back_bytes (b : ByteArray) : (⟨b.data.toList.toArray⟩ : ByteArray) = b := by apply ByteArray.ext; simp
theorem own_ne (w : World) : w.heap.size ≠ w.heap.size + 1 + 1 := by omega
theorem Own.put0 {w wx : World} {a b c : Int} {pre mt s : ByteArray} (h : Own w wx a b c pre mt s) (u : Int) : Own w (wx.setCell ⟨w.heap.size + 1 + 1, 0, none⟩ (.int .u64 u)) u b c pre mt s :=
 ⟨h.bel.setCell (by simp; omega) _, blk_far h.res (own_ne w) _, blk_put h.ver 0 _ rfl⟩
theorem Own.put1 {w wx : World} {a b c : Int} {pre mt s : ByteArray} (h : Own w wx a b c pre mt s) (u : Int) : Own w (wx.setCell ⟨w.heap.size + 1 + 1, 1, none⟩ (.int .u64 u)) a u c pre mt s :=
 ⟨h.bel.setCell (by simp; omega) _, blk_far h.res (own_ne w) _, blk_put h.ver 1 _ rfl⟩
theorem Own.put2 {w wx : World} {a b c : Int} {pre mt s : ByteArray} (h : Own w wx a b c pre mt s) (u : Int) : Own w (wx.setCell ⟨w.heap.size + 1 + 1, 2, none⟩ (.int .u64 u)) a b u pre mt s :=
 ⟨h.bel.setCell (by simp; omega) _, blk_far h.res (own_ne w) _, blk_put h.ver 2 _ rfl⟩
theorem Own.put3 {w wx : World} {a b c : Int} {pre mt s : ByteArray} (h : Own w wx a b c pre mt s) (u : ByteArray) : Own w (wx.setCell ⟨w.heap.size + 1 + 1, 3, none⟩ (.string u)) a b c u mt s :=
 ⟨h.bel.setCell (by simp; omega) _, blk_far h.res (own_ne w) _, blk_put h.ver 3 _ rfl⟩
theorem Own.put4 {w wx : World} {a b c : Int} {pre mt s : ByteArray} (h : Own w wx a b c pre mt s) (u : ByteArray) : Own w (wx.setCell ⟨w.heap.size + 1 + 1, 4, none⟩ (.string u)) a b c pre u s :=
 ⟨h.bel.setCell (by simp; omega) _, blk_far h.res (own_ne w) _, blk_put h.ver 4 _ rfl⟩
theorem cut_from (s : ByteArray) (n : Nat) (h : n ≤ s.size) (W : World) : (Instr.slice 9 (.string s) (some (.int .i64 (n : Int))) none none).run Tryz.prog W = .ok (.string (s.extract n s.size)) W := by
 rw [run_slice_string_from_if W 9 s .i64 (n : Int) Tryz.underlying9]
 rw [if_pos (by omega)]
 simp
theorem three_of {acc : List Nat} (h : acc.length ≤ 2) : acc = [] ∨ (∃ a, acc = [a]) ∨ ∃ a b, acc = [a, b] := by
 match acc, h with
 | [], _ => exact .inl rfl
 | [a], _ => exact .inr (.inl ⟨a, rfl⟩)
 | [a, b], _ => exact .inr (.inr ⟨a, b, rfl⟩)
theorem cut_mid (s : ByteArray) (i j : Nat) (h : i ≤ j) (h2 : j ≤ s.size) (W : World) : (Instr.slice 9 (.string s) (some (.int .i64 (i : Int))) (some (.int .i64 (j : Int))) none).run Tryz.prog W = .ok (.string (s.extract i j)) W := by
 rw [run_slice_string W 9 s .i64 .i64 _ _ Tryz.underlying9 (by omega) (by omega) (by omega)]
 simp
theorem ident_size (s : ByteArray) : identN s.data.toList ≤ s.size := by
 have h := identN_le s.data.toList
 have e : s.data.toList.length = s.size := Array.length_toList
 omega
theorem part_not {s : ByteArray} {c : UInt8} (h : begins s.data.toList c.toNat = false) : part c s.data.toList = some ([], s.data.toList) := by
 cases e : s.data.toList with
 | nil => rfl
 | cons x r =>
  rw [e] at h
  rw [part, if_neg (fun hx => by rw [hx] at h; simp [begins] at h)]
theorem begins_list {s : ByteArray} {c : UInt8} (h : begins s.data.toList c.toNat = true) : s.data.toList = c :: s.data.toList.drop 1 := by
 have h0 := begins_pos h
 have e := drop_at s 0 h0
 rw [List.drop_zero] at e
 conv => lhs; rw [e]
 rw [UInt8.toNat_inj.1 (begins_one h h0)]
theorem part_bad {s : ByteArray} {c : UInt8} (h : begins s.data.toList c.toNat = true) (hn : identN (s.extract 1 s.size).data.toList = 0) : part c s.data.toList = none := by
 rw [drop_data] at hn
 rw [begins_list h, part, if_pos rfl, if_pos hn]
theorem part_is {s : ByteArray} {c : UInt8} (h : begins s.data.toList c.toNat = true) (hn : identN (s.extract 1 s.size).data.toList ≠ 0) :
  part c s.data.toList = some ((s.extract 1 (1 + identN (s.extract 1 s.size).data.toList)).data.toList, (s.extract (1 + identN (s.extract 1 s.size).data.toList) s.size).data.toList) := by
 rw [drop_data] at hn
 rw [drop_data, drop_data]
 have e1 : ∀ n, (s.extract 1 (1 + n)).data.toList = (s.data.toList.drop 1).take n := by
  intro n
  rw [ByteArray.data_extract, Array.toList_extract]
  simp only [List.extract_eq_take_drop]
  rw [show 1 + n - 1 = n by omega]
 rw [e1, ← List.drop_drop]
 have e := begins_list h
 generalize s.data.toList.drop 1 = q at *
 rw [e, part, if_pos rfl, if_neg hn]
theorem readV_pre {s : ByteArray} {ns : List Nat} {r : List UInt8} (h : nums 3 [] (bare0 s.data.toList) = some (ns, r)) (h2 : part 45 r = none) : readV s = none := by unfold readV; rw [h]; simp only; rw [h2]
theorem readV_mt {s : ByteArray} {ns : List Nat} {r pre r1 : List UInt8} (h : nums 3 [] (bare0 s.data.toList) = some (ns, r)) (h2 : part 45 r = some (pre, r1)) (h3 : part 43 r1 = none) : readV s = none := by unfold readV; rw [h]; simp only; rw [h2]; simp only; rw [h3]
theorem readV_rest {s : ByteArray} {ns : List Nat} {r pre r1 mt r2 : List UInt8} (h : nums 3 [] (bare0 s.data.toList) = some (ns, r)) (h2 : part 45 r = some (pre, r1)) (h3 : part 43 r1 = some (mt, r2)) (h4 : r2 ≠ []) : readV s = none := by
 unfold readV; rw [h]; simp only; rw [h2]; simp only; rw [h3]; simp only; rw [if_neg h4]
theorem readV_ok {s : ByteArray} {ns : List Nat} {r pre r1 mt r2 : List UInt8} (h : nums 3 [] (bare0 s.data.toList) = some (ns, r)) (h2 : part 45 r = some (pre, r1)) (h3 : part 43 r1 = some (mt, r2)) (h4 : r2 = []) :
  readV s = some (⟨(ns.getD 0 0 : Nat), (ns.getD 1 0 : Nat), (ns.getD 2 0 : Nat), ⟨pre.toArray⟩, ⟨mt.toArray⟩, s⟩, ns.length) := by
 unfold readV; rw [h]; simp only; rw [h2]; simp only; rw [h3]; simp only; rw [if_pos h4]
theorem list_nil {s : ByteArray} (h : s.size = 0) : s.data.toList = [] := List.length_eq_zero_iff.1 (by rw [Array.length_toList]; exact h)
theorem list_some {s : ByteArray} (h : 0 < s.size) : s.data.toList ≠ [] := fun e => by
 have h1 : s.data.toList.length = s.size := Array.length_toList
 rw [e, List.length_nil] at h1
 omega
theorem readEnd_good {s : ByteArray} {w w' : World} {v : SV} {k : Nat} (h : readV s = some (v, k)) (hb : Below w.heap.size w w') : ReadEnd s w (.returned (.tuple #[.agg v.cells, .int .i64 (k : Int), .nilIface])) w' := by
 refine ⟨hb, ?_⟩
 rw [h]
theorem numOf_zero {l : List UInt8} (h : digN l = 0) : numOf l = none := by unfold numOf; rw [if_pos h]
theorem numOf_bad {l : List UInt8} (h : ∀ u, Lib.parseUintB 64 (l.take (digN l)) ≠ .ok u) : numOf l = none := by
 unfold numOf
 split
 ·rfl
 ·split
  ·rename_i u hu; exact absurd hu (h u)
  ·rfl
theorem numOf_ok {l : List UInt8} {u : Nat} (h0 : digN l ≠ 0) (h : Lib.parseUintB 64 (l.take (digN l)) = .ok u) : numOf l = some (u, l.drop (digN l)) := by
 unfold numOf
 rw [if_neg h0, h]
theorem nums_none {m : Nat} {acc : List Nat} {l : List UInt8} (h : numOf l = none) : nums (m + 1) acc l = none := by rw [nums, h]
theorem nums_stop {m : Nat} {acc : List Nat} {l r : List UInt8} {u : Nat} (h : numOf l = some (u, r)) (hs : goOn r = false ∨ m = 0) : nums (m + 1) acc l = some (acc ++ [u], r) := by
 rw [nums, h]
 rcases hs with hs | hs
 ·simp [hs]
 ·simp [hs]
theorem nums_on {m : Nat} {acc : List Nat} {l r : List UInt8} {u : Nat} (h : numOf l = some (u, r)) (hs : goOn r = true) (hm : 0 < m) : nums (m + 1) acc l = nums m (acc ++ [u]) (r.drop 1) := by
 rw [nums, h]
 simp [hs, hm]
theorem goOn_begins (l : List UInt8) : goOn l = begins l 46 := by
 cases l with
 | nil => rfl
 | cons c r =>
  simp only [goOn, begins]
  by_cases h : c = 46
  ·subst h; rfl
  ·rw [beq_eq_false_iff_ne.2 h, beq_eq_false_iff_ne.2 (fun e => h (UInt8.toNat_inj.1 (by rw [e]; rfl)))]
set_option maxRecDepth 20000 in
set_option maxHeartbeats 4000000 in
theorem read_any (s : ByteArray) (hs : s.size ≤ 2147483647) (w : World) (hv : Vars w) : Calls Tryz.prog 143 #[.string s] w (ReadEnd s w) := by
 go_enter Tryz.func143, Tryz.ntmps143
 go_upto_region 3 with (go_at_call 144; ((with_reducible refine (new_any _ _).mono ?_); rintro e w1 ⟨rfl, rfl⟩))
 go_cut [26] from 20 to 26 (fun v26 wx => v26 = .bool (begins s.data.toList 118) ∧ Aside0 (Own w wx 0 0 0 ⟨#[]⟩ ⟨#[]⟩ s))
 case first =>
  rcases Nat.eq_zero_or_pos s.size with h0 | h0
  ·have hem := isEmpty_true h0
   have hbg := begins_nil (c := 118) h0
   go_wp2_with fail
   go_meet
   case rel => exact ⟨by rw [hbg], ⟨own_start w _ s⟩⟩
  ·have hem := isEmpty_false h0
   have hbg := begins_at (c := 118) h0
   rw [← cast_beq] at hbg
   have HBG := Lib.hid hbg
   clear hbg
   go_wp2_with fail
   go_meet
   case rel => exact ⟨by rw [HBG.out]; rfl, ⟨own_start w _ s⟩⟩
 case rest =>
  obtain ⟨rfl, HO⟩ := hcut
  go_upto_if 26 with fail
  go_cut [7] from 26 to 28 (fun v7 wx => ∃ r : ByteArray, v7 = .string r ∧ r.size ≤ 2147483647 ∧ r.data.toList = bare0 s.data.toList ∧ Aside0 (Own w wx 0 0 0 ⟨#[]⟩ ⟨#[]⟩ s))
  case first =>
   cases hq : begins s.data.toList 118 with
   | false =>
    go_wp2_with fail
    go_meet
    case rel => exact ⟨s, rfl, hs, bare0_of_not hq, HO⟩
   | true =>
    have h0 := begins_pos hq
    go_wp2_with fail
    go_meet
    case rel => exact ⟨_, rfl, by simp only [ByteArray.size_extract]; omega, bare0_v h0 (begins_one hq h0), HO⟩
  case rest =>
   obtain ⟨r, rfl, hr, hrl, HO⟩ := hcut
   have HRL := Lib.hid hrl
   have HNE := Lib.hid (show wc.heap.size ≠ w.heap.size + 1 + 1 from Nat.ne_of_gt (blk_lt HO.out.ver))
   have HV := Lib.hid hv
   clear hrl hv
   go_upto_block 0 with fail
   go_cut [7, 8, 10, 11, 12, 13] from 34 to 92 (fun v7 v8 _ _ _ _ wx => ∃ (r1 : ByteArray) (ns : List Nat), v7 = .string r1 ∧ v8 = .int .i64 (ns.length : Int) ∧ r1.size ≤ 2147483647 ∧ Aside0 (nums 3 [] r.data.toList = some (ns, r1.data.toList)) ∧ Aside0 (Own w wx (ns.getD 0 0 : Nat) (ns.getD 1 0 : Nat) (ns.getD 2 0 : Nat) ⟨#[]⟩ ⟨#[]⟩ s))
   case first =>
    go_wp2_with fail
    go_loopw [7, 8, 34] (fun v7 v8 v34 wr => ∃ (r1 : ByteArray) (acc : List Nat), v7 = .string r1 ∧ v8 = .int .i64 (acc.length : Int) ∧ v34 = .int .i64 (acc.length : Int) ∧ acc.length ≤ 2 ∧ r1.size ≤ 2147483647 ∧ Aside0 (nums (3 - acc.length) acc r1.data.toList = nums 3 [] r.data.toList) ∧ Aside0 (Own w wr (acc.getD 0 0 : Nat) (acc.getD 1 0 : Nat) (acc.getD 2 0 : Nat) ⟨#[]⟩ ⟨#[]⟩ s) ∧ Aside0 (wr.heap[wc.heap.size]? = some (.cells #[.pointer (some ⟨w.heap.size + 1 + 1, 0, none⟩), .pointer (some ⟨w.heap.size + 1 + 1, 1, none⟩), .pointer (some ⟨w.heap.size + 1 + 1, 2, none⟩)] 255 (0, 0)))) (fun _ _ v34 _ => 3 - (intOf v34).toNat)
    case atStart => exact ⟨r, [], rfl, rfl, rfl, by simp, hr, ⟨rfl⟩, ⟨HO.out.below (below_alloc (Below.refl _ _) _)⟩, ⟨alloc_at _ _⟩⟩
    case round =>
     clear HO
     obtain ⟨r1, acc, rfl, hv8, hv34, hk, hr1, HN, HO, HP⟩ := hrel
     have hacc : acc = [] ∨ (∃ a, acc = [a]) ∨ ∃ a b, acc = [a, b] := three_of hk
     clear hk
     rcases hacc with rfl | ⟨a, rfl⟩ | ⟨a, b, rfl⟩ <;> simp only [List.length_nil, List.length_cons] at hv8 hv34
     all_goals
      subst hv8 hv34
     ·-- number 0
      have hp := blk_cell HP.out 0
      go_upto_block 2 with fail
      go_cut [11] from 38 to 55 (fun v11 wx => v11 = .int .i64 ((digN r1.data.toList : Nat) : Int) ∧ Aside0 (Own w wx ([].getD 0 0 : Nat) ([].getD 1 0 : Nat) ([].getD 2 0 : Nat) ⟨#[]⟩ ⟨#[]⟩ s) ∧ Aside0 (wx.heap[wc.heap.size]? = some (.cells #[.pointer (some ⟨w.heap.size + 1 + 1, 0, none⟩), .pointer (some ⟨w.heap.size + 1 + 1, 1, none⟩), .pointer (some ⟨w.heap.size + 1 + 1, 2, none⟩)] 255 (0, 0))))
      case first =>
       clear hp
       go_wp2_with fail
       go_loopw [11] (fun v11 wr2 => ∃ i : Nat, v11 = .int .i64 (i : Int) ∧ i ≤ r1.size ∧ Aside0 (digN r1.data.toList = i + digN (r1.data.toList.drop i)) ∧ Aside0 (Own w wr2 ([].getD 0 0 : Nat) ([].getD 1 0 : Nat) ([].getD 2 0 : Nat) ⟨#[]⟩ ⟨#[]⟩ s) ∧ Aside0 (wr2.heap[wc.heap.size]? = some (.cells #[.pointer (some ⟨w.heap.size + 1 + 1, 0, none⟩), .pointer (some ⟨w.heap.size + 1 + 1, 1, none⟩), .pointer (some ⟨w.heap.size + 1 + 1, 2, none⟩)] 255 (0, 0)))) (fun v11 _ => r1.size - (intOf v11).toNat)
       case atStart => exact ⟨0, rfl, by omega, ⟨by simp⟩, HO, HP⟩
       case round =>
        obtain ⟨i, rfl, hi, HD, HO, HP⟩ := hrel
        by_cases hlt : i < r1.size
        ·have HS := Lib.hid (digN_step hlt)
         by_cases q1 : 48 ≤ (r1[i]).toNat
         ·by_cases q2 : (r1[i]).toNat ≤ 57
          ·have q3 : decide ((48 : Int) ≤ ((r1[i]).toNat : Int)) = true := decide_eq_true (by omega)
           have q4 : decide (((r1[i]).toNat : Int) ≤ 57) = true := decide_eq_true (by omega)
           have HD2 := Aside0.mk (show digN r1.data.toList = (i + 1) + digN (r1.data.toList.drop (i + 1)) by rw [HD.out, HS.out, if_pos ⟨q1, q2⟩]; omega)
           clear q1 q2
           go_wp2_with fail
           go_roundw
           case rel => exact ⟨i + 1, by simp, by omega, HD2, HO, HP⟩
           case measure => simp [intOf]; omega
          ·have q3 : decide ((48 : Int) ≤ ((r1[i]).toNat : Int)) = true := decide_eq_true (by omega)
           have q4 : decide (((r1[i]).toNat : Int) ≤ 57) = false := decide_eq_false (by omega)
           have HE := Aside0.mk (show digN r1.data.toList = i by rw [HD.out, HS.out, if_neg (fun h => q2 h.2)]; omega)
           clear q1 q2
           go_wp2_with fail
           go_meet
           case rel => exact ⟨by rw [HE.out], HO, HP⟩
         ·have q3 : decide ((48 : Int) ≤ ((r1[i]).toNat : Int)) = false := decide_eq_false (by omega)
          have HE := Aside0.mk (show digN r1.data.toList = i by rw [HD.out, HS.out, if_neg (fun h => q1 h.1)]; omega)
          clear q1
          go_wp2_with fail
          go_meet
          case rel => exact ⟨by rw [HE.out], HO, HP⟩
        ·have HE := Aside0.mk (show digN r1.data.toList = i by rw [HD.out, digN_end hlt]; omega)
         go_wp2_with fail
         go_meet
         case rel => exact ⟨by rw [HE.out], HO, HP⟩
      case rest =>
       clear hp HO HP
       obtain ⟨rfl, HO, HP⟩ := hcut
       have hnl := digN_le r1.data.toList
       have hnl2 : digN r1.data.toList ≤ r1.size := by
        have e : r1.data.toList.length = r1.size := Array.length_toList
        omega
       clear hnl
       by_cases hn0 : digN r1.data.toList = 0
       ·have HBAD := Lib.hid (readV_none (s := s) (by rw [← HRL.out, ← HN.out]; exact nums_none (m := 2) (numOf_zero hn0)))
        have q0 : (((digN r1.data.toList : Nat) : Int) == 0) = true := by rw [hn0]; rfl
        clear hn0
        generalize digN r1.data.toList = n at *
        have r0 := blk_cell (HO.out).res 0
        have t0 := blk_frozen (HO.out).res 0
        have r1 := blk_cell (HO.out).res 1
        have t1 := blk_frozen (HO.out).res 1
        have r2 := blk_cell (HO.out).res 2
        have t2 := blk_frozen (HO.out).res 2
        have r3 := blk_cell (HO.out).res 3
        have t3 := blk_frozen (HO.out).res 3
        have r4 := blk_cell (HO.out).res 4
        have t4 := blk_frozen (HO.out).res 4
        have r5 := blk_cell (HO.out).res 5
        have t5 := blk_frozen (HO.out).res 5
        go_wp2_with fail
        refine bodyPost_ret (v := .tuple #[.agg zSV, .int .i64 0, .iface 260 (.pointer (some ⟨w.heap.size + 1, 0, none⟩))]) (by simp [results, Tryz.results143, go_sem, *]) rfl (readEnd_bad HBAD.out ?_)
        exact ((((((HO.out.bel).setCell (Nat.le_refl _) _).setCell (Nat.le_refl _) _).setCell (Nat.le_refl _) _).setCell (Nat.le_refl _) _).setCell (Nat.le_refl _) _).setCell (Nat.le_refl _) _
       ·have q0 : (((digN r1.data.toList : Nat) : Int) == 0) = false := by rw [beq_eq_false_iff_ne]; omega
        have HU := Lib.hid (fun (u : Nat) (h : Lib.parseUintB 64 (r1.extract 0 (digN r1.data.toList)).data.toList = .ok u) => numOf_ok (l := r1.data.toList) hn0 (by rw [take_data] at h; exact h))
        have HW := Lib.hid (fun (h : ∀ u : Nat, Lib.parseUintB 64 (r1.extract 0 (digN r1.data.toList)).data.toList ≠ .ok u) => numOf_bad (l := r1.data.toList) (by rw [take_data] at h; exact h))
        have HDD := Lib.hid (drop_data r1 (digN r1.data.toList))
        have hcut := cut_from r1 (digN r1.data.toList) hnl2
        have CU := Lib.hid (uint_any (r1.extract 0 (digN r1.data.toList)) (by simp only [ByteArray.size_extract]; omega) wc (HV.out.below HO.out.bel))
        clear hn0
        have hms : (r1.extract (digN r1.data.toList) r1.size).size ≤ 2147483647 := by simp only [ByteArray.size_extract]; omega
        generalize digN r1.data.toList = n at *
        go_wp2_with (first | (go_at_call 152; ((with_reducible refine CU.out.mono ?_); rintro e w5 ⟨nn, err, rfl, hb, hor⟩; refine Hid.out ?_)))
        have HO5 := Aside0.mk (HO.out.below hb)
        have HP5 := Aside0.mk (blk_below HP.out hb)
        have HOR := Lib.hid hor
        clear hb hor CU
        rcases HOR.out with ⟨u, rfl, hu, rfl⟩ | ⟨hno, tt, ad, rfl⟩
        ·have HNU := Lib.hid (HU.out u hu)
         clear hu HOR HU HW
         have x0 := blk_cell HO5.out.ver 0
         have y0 := blk_frozen HO5.out.ver 0
         have HO6 := Aside0.mk (HO5.out.put0 (u : Int))
         have HP6 := Aside0.mk (blk_far HP5.out (p := ⟨w.heap.size + 1 + 1, 0, none⟩) HNE.out (.int .u64 (u : Int)))
         generalize r1.extract n r1.size = m at *
         have HMS := Lib.hid hms
         clear hnl2
         rcases Nat.eq_zero_or_pos m.size with hm0 | hm0
         ·have hem := isEmpty_true hm0
          have HR := Aside0.mk (show nums 3 [] r.data.toList = some ([u], m.data.toList) by rw [← HN.out]; exact nums_stop (m := 2) (by rw [HNU.out, ← HDD.out]) (.inl (by rw [goOn_begins, begins_nil hm0])))
          clear HP5 HP6
          refine Lib.hid ?_
          go_wp2_with fail
          go_meet
          case rel => exact ⟨m, [u], rfl, by simp, HMS.out, HR, HO6⟩
         ·have hem := isEmpty_false hm0
          have hbg := begins_at (c := 46) hm0
          by_cases hq : (m[0]).toNat = 46
          ·have qn : (((m[0]).toNat : Int) != 46) = false := by rw [bne_eq_false_iff_eq]; omega
           have HR := Aside0.mk (show nums 2 [u] (m.extract 1 m.size).data.toList = nums 3 [] r.data.toList by rw [← HN.out, drop_data]; exact (nums_on (acc := []) (m := 2) (by rw [HNU.out, ← HDD.out]) (by rw [goOn_begins, hbg, hq]; rfl) (by omega)).symm)
           clear HP5 hq hbg
           refine Lib.hid ?_
           go_wp2_with fail
           go_roundw
           case rel => exact ⟨_, [u], rfl, by simp, by simp, by simp, by simp only [ByteArray.size_extract]; omega, HR, HO6, HP6⟩
           case measure => simp [intOf]
          ·have qn : (((m[0]).toNat : Int) != 46) = true := by rw [bne_iff_ne]; omega
           have HR := Aside0.mk (show nums 3 [] r.data.toList = some ([u], m.data.toList) by rw [← HN.out]; exact nums_stop (m := 2) (by rw [HNU.out, ← HDD.out]) (.inl (by rw [goOn_begins, hbg]; exact beq_eq_false_iff_ne.2 hq)))
           clear HP5 HP6 hq hbg
           refine Lib.hid ?_
           go_wp2_with fail
           go_meet
           case rel => exact ⟨m, [u], rfl, by simp, HMS.out, HR, HO6⟩
        ·have HBAD := Lib.hid (readV_none (s := s) (by rw [← HRL.out, ← HN.out]; exact nums_none (m := 2) (HW.out hno)))
         clear hno HOR HU HW
         have r0 := blk_cell (HO5.out).res 0
         have t0 := blk_frozen (HO5.out).res 0
         have r1 := blk_cell (HO5.out).res 1
         have t1 := blk_frozen (HO5.out).res 1
         have r2 := blk_cell (HO5.out).res 2
         have t2 := blk_frozen (HO5.out).res 2
         have r3 := blk_cell (HO5.out).res 3
         have t3 := blk_frozen (HO5.out).res 3
         have r4 := blk_cell (HO5.out).res 4
         have t4 := blk_frozen (HO5.out).res 4
         have r5 := blk_cell (HO5.out).res 5
         have t5 := blk_frozen (HO5.out).res 5
         refine Lib.hid ?_
         go_wp2_with fail
         refine bodyPost_ret (v := .tuple #[.agg zSV, .int .i64 0, .iface 260 (.pointer (some ⟨w.heap.size + 1, 0, none⟩))]) (by simp [results, Tryz.results143, go_sem, *]) rfl (readEnd_bad HBAD.out ?_)
         exact ((((((HO5.out.bel).setCell (Nat.le_refl _) _).setCell (Nat.le_refl _) _).setCell (Nat.le_refl _) _).setCell (Nat.le_refl _) _).setCell (Nat.le_refl _) _).setCell (Nat.le_refl _) _
     ·-- number 1
      have hp := blk_cell HP.out 1
      go_upto_block 2 with fail
      go_cut [11] from 38 to 55 (fun v11 wx => v11 = .int .i64 ((digN r1.data.toList : Nat) : Int) ∧ Aside0 (Own w wx ([a].getD 0 0 : Nat) ([a].getD 1 0 : Nat) ([a].getD 2 0 : Nat) ⟨#[]⟩ ⟨#[]⟩ s) ∧ Aside0 (wx.heap[wc.heap.size]? = some (.cells #[.pointer (some ⟨w.heap.size + 1 + 1, 0, none⟩), .pointer (some ⟨w.heap.size + 1 + 1, 1, none⟩), .pointer (some ⟨w.heap.size + 1 + 1, 2, none⟩)] 255 (0, 0))))
      case first =>
       clear hp
       go_wp2_with fail
       go_loopw [11] (fun v11 wr2 => ∃ i : Nat, v11 = .int .i64 (i : Int) ∧ i ≤ r1.size ∧ Aside0 (digN r1.data.toList = i + digN (r1.data.toList.drop i)) ∧ Aside0 (Own w wr2 ([a].getD 0 0 : Nat) ([a].getD 1 0 : Nat) ([a].getD 2 0 : Nat) ⟨#[]⟩ ⟨#[]⟩ s) ∧ Aside0 (wr2.heap[wc.heap.size]? = some (.cells #[.pointer (some ⟨w.heap.size + 1 + 1, 0, none⟩), .pointer (some ⟨w.heap.size + 1 + 1, 1, none⟩), .pointer (some ⟨w.heap.size + 1 + 1, 2, none⟩)] 255 (0, 0)))) (fun v11 _ => r1.size - (intOf v11).toNat)
       case atStart => exact ⟨0, rfl, by omega, ⟨by simp⟩, HO, HP⟩
       case round =>
        obtain ⟨i, rfl, hi, HD, HO, HP⟩ := hrel
        by_cases hlt : i < r1.size
        ·have HS := Lib.hid (digN_step hlt)
         by_cases q1 : 48 ≤ (r1[i]).toNat
         ·by_cases q2 : (r1[i]).toNat ≤ 57
          ·have q3 : decide ((48 : Int) ≤ ((r1[i]).toNat : Int)) = true := decide_eq_true (by omega)
           have q4 : decide (((r1[i]).toNat : Int) ≤ 57) = true := decide_eq_true (by omega)
           have HD2 := Aside0.mk (show digN r1.data.toList = (i + 1) + digN (r1.data.toList.drop (i + 1)) by rw [HD.out, HS.out, if_pos ⟨q1, q2⟩]; omega)
           clear q1 q2
           go_wp2_with fail
           go_roundw
           case rel => exact ⟨i + 1, by simp, by omega, HD2, HO, HP⟩
           case measure => simp [intOf]; omega
          ·have q3 : decide ((48 : Int) ≤ ((r1[i]).toNat : Int)) = true := decide_eq_true (by omega)
           have q4 : decide (((r1[i]).toNat : Int) ≤ 57) = false := decide_eq_false (by omega)
           have HE := Aside0.mk (show digN r1.data.toList = i by rw [HD.out, HS.out, if_neg (fun h => q2 h.2)]; omega)
           clear q1 q2
           go_wp2_with fail
           go_meet
           case rel => exact ⟨by rw [HE.out], HO, HP⟩
         ·have q3 : decide ((48 : Int) ≤ ((r1[i]).toNat : Int)) = false := decide_eq_false (by omega)
          have HE := Aside0.mk (show digN r1.data.toList = i by rw [HD.out, HS.out, if_neg (fun h => q1 h.1)]; omega)
          clear q1
          go_wp2_with fail
          go_meet
          case rel => exact ⟨by rw [HE.out], HO, HP⟩
        ·have HE := Aside0.mk (show digN r1.data.toList = i by rw [HD.out, digN_end hlt]; omega)
         go_wp2_with fail
         go_meet
         case rel => exact ⟨by rw [HE.out], HO, HP⟩
      case rest =>
       clear hp HO HP
       obtain ⟨rfl, HO, HP⟩ := hcut
       have hnl := digN_le r1.data.toList
       have hnl2 : digN r1.data.toList ≤ r1.size := by
        have e : r1.data.toList.length = r1.size := Array.length_toList
        omega
       clear hnl
       by_cases hn0 : digN r1.data.toList = 0
       ·have HBAD := Lib.hid (readV_none (s := s) (by rw [← HRL.out, ← HN.out]; exact nums_none (m := 1) (numOf_zero hn0)))
        have q0 : (((digN r1.data.toList : Nat) : Int) == 0) = true := by rw [hn0]; rfl
        clear hn0
        generalize digN r1.data.toList = n at *
        have r0 := blk_cell (HO.out).res 0
        have t0 := blk_frozen (HO.out).res 0
        have r1 := blk_cell (HO.out).res 1
        have t1 := blk_frozen (HO.out).res 1
        have r2 := blk_cell (HO.out).res 2
        have t2 := blk_frozen (HO.out).res 2
        have r3 := blk_cell (HO.out).res 3
        have t3 := blk_frozen (HO.out).res 3
        have r4 := blk_cell (HO.out).res 4
        have t4 := blk_frozen (HO.out).res 4
        have r5 := blk_cell (HO.out).res 5
        have t5 := blk_frozen (HO.out).res 5
        go_wp2_with fail
        refine bodyPost_ret (v := .tuple #[.agg zSV, .int .i64 0, .iface 260 (.pointer (some ⟨w.heap.size + 1, 0, none⟩))]) (by simp [results, Tryz.results143, go_sem, *]) rfl (readEnd_bad HBAD.out ?_)
        exact ((((((HO.out.bel).setCell (Nat.le_refl _) _).setCell (Nat.le_refl _) _).setCell (Nat.le_refl _) _).setCell (Nat.le_refl _) _).setCell (Nat.le_refl _) _).setCell (Nat.le_refl _) _
       ·have q0 : (((digN r1.data.toList : Nat) : Int) == 0) = false := by rw [beq_eq_false_iff_ne]; omega
        have HU := Lib.hid (fun (u : Nat) (h : Lib.parseUintB 64 (r1.extract 0 (digN r1.data.toList)).data.toList = .ok u) => numOf_ok (l := r1.data.toList) hn0 (by rw [take_data] at h; exact h))
        have HW := Lib.hid (fun (h : ∀ u : Nat, Lib.parseUintB 64 (r1.extract 0 (digN r1.data.toList)).data.toList ≠ .ok u) => numOf_bad (l := r1.data.toList) (by rw [take_data] at h; exact h))
        have HDD := Lib.hid (drop_data r1 (digN r1.data.toList))
        have hcut := cut_from r1 (digN r1.data.toList) hnl2
        have CU := Lib.hid (uint_any (r1.extract 0 (digN r1.data.toList)) (by simp only [ByteArray.size_extract]; omega) wc (HV.out.below HO.out.bel))
        clear hn0
        have hms : (r1.extract (digN r1.data.toList) r1.size).size ≤ 2147483647 := by simp only [ByteArray.size_extract]; omega
        generalize digN r1.data.toList = n at *
        go_wp2_with (first | (go_at_call 152; ((with_reducible refine CU.out.mono ?_); rintro e w5 ⟨nn, err, rfl, hb, hor⟩; refine Hid.out ?_)))
        have HO5 := Aside0.mk (HO.out.below hb)
        have HP5 := Aside0.mk (blk_below HP.out hb)
        have HOR := Lib.hid hor
        clear hb hor CU
        rcases HOR.out with ⟨u, rfl, hu, rfl⟩ | ⟨hno, tt, ad, rfl⟩
        ·have HNU := Lib.hid (HU.out u hu)
         clear hu HOR HU HW
         have x0 := blk_cell HO5.out.ver 1
         have y0 := blk_frozen HO5.out.ver 1
         have HO6 := Aside0.mk (HO5.out.put1 (u : Int))
         have HP6 := Aside0.mk (blk_far HP5.out (p := ⟨w.heap.size + 1 + 1, 1, none⟩) HNE.out (.int .u64 (u : Int)))
         generalize r1.extract n r1.size = m at *
         have HMS := Lib.hid hms
         clear hnl2
         rcases Nat.eq_zero_or_pos m.size with hm0 | hm0
         ·have hem := isEmpty_true hm0
          have HR := Aside0.mk (show nums 3 [] r.data.toList = some ([a, u], m.data.toList) by rw [← HN.out]; exact nums_stop (m := 1) (by rw [HNU.out, ← HDD.out]) (.inl (by rw [goOn_begins, begins_nil hm0])))
          clear HP5 HP6
          refine Lib.hid ?_
          go_wp2_with fail
          go_meet
          case rel => exact ⟨m, [a, u], rfl, by simp, HMS.out, HR, HO6⟩
         ·have hem := isEmpty_false hm0
          have hbg := begins_at (c := 46) hm0
          by_cases hq : (m[0]).toNat = 46
          ·have qn : (((m[0]).toNat : Int) != 46) = false := by rw [bne_eq_false_iff_eq]; omega
           have HR := Aside0.mk (show nums 1 [a, u] (m.extract 1 m.size).data.toList = nums 3 [] r.data.toList by rw [← HN.out, drop_data]; exact (nums_on (acc := [a]) (m := 1) (by rw [HNU.out, ← HDD.out]) (by rw [goOn_begins, hbg, hq]; rfl) (by omega)).symm)
           clear HP5 hq hbg
           refine Lib.hid ?_
           go_wp2_with fail
           go_roundw
           case rel => exact ⟨_, [a, u], rfl, by simp, by simp, by simp, by simp only [ByteArray.size_extract]; omega, HR, HO6, HP6⟩
           case measure => simp [intOf]
          ·have qn : (((m[0]).toNat : Int) != 46) = true := by rw [bne_iff_ne]; omega
           have HR := Aside0.mk (show nums 3 [] r.data.toList = some ([a, u], m.data.toList) by rw [← HN.out]; exact nums_stop (m := 1) (by rw [HNU.out, ← HDD.out]) (.inl (by rw [goOn_begins, hbg]; exact beq_eq_false_iff_ne.2 hq)))
           clear HP5 HP6 hq hbg
           refine Lib.hid ?_
           go_wp2_with fail
           go_meet
           case rel => exact ⟨m, [a, u], rfl, by simp, HMS.out, HR, HO6⟩
        ·have HBAD := Lib.hid (readV_none (s := s) (by rw [← HRL.out, ← HN.out]; exact nums_none (m := 1) (HW.out hno)))
         clear hno HOR HU HW
         have r0 := blk_cell (HO5.out).res 0
         have t0 := blk_frozen (HO5.out).res 0
         have r1 := blk_cell (HO5.out).res 1
         have t1 := blk_frozen (HO5.out).res 1
         have r2 := blk_cell (HO5.out).res 2
         have t2 := blk_frozen (HO5.out).res 2
         have r3 := blk_cell (HO5.out).res 3
         have t3 := blk_frozen (HO5.out).res 3
         have r4 := blk_cell (HO5.out).res 4
         have t4 := blk_frozen (HO5.out).res 4
         have r5 := blk_cell (HO5.out).res 5
         have t5 := blk_frozen (HO5.out).res 5
         refine Lib.hid ?_
         go_wp2_with fail
         refine bodyPost_ret (v := .tuple #[.agg zSV, .int .i64 0, .iface 260 (.pointer (some ⟨w.heap.size + 1, 0, none⟩))]) (by simp [results, Tryz.results143, go_sem, *]) rfl (readEnd_bad HBAD.out ?_)
         exact ((((((HO5.out.bel).setCell (Nat.le_refl _) _).setCell (Nat.le_refl _) _).setCell (Nat.le_refl _) _).setCell (Nat.le_refl _) _).setCell (Nat.le_refl _) _).setCell (Nat.le_refl _) _
     ·-- number 2
      have hp := blk_cell HP.out 2
      go_upto_block 2 with fail
      go_cut [11] from 38 to 55 (fun v11 wx => v11 = .int .i64 ((digN r1.data.toList : Nat) : Int) ∧ Aside0 (Own w wx ([a, b].getD 0 0 : Nat) ([a, b].getD 1 0 : Nat) ([a, b].getD 2 0 : Nat) ⟨#[]⟩ ⟨#[]⟩ s) ∧ Aside0 (wx.heap[wc.heap.size]? = some (.cells #[.pointer (some ⟨w.heap.size + 1 + 1, 0, none⟩), .pointer (some ⟨w.heap.size + 1 + 1, 1, none⟩), .pointer (some ⟨w.heap.size + 1 + 1, 2, none⟩)] 255 (0, 0))))
      case first =>
       clear hp
       go_wp2_with fail
       go_loopw [11] (fun v11 wr2 => ∃ i : Nat, v11 = .int .i64 (i : Int) ∧ i ≤ r1.size ∧ Aside0 (digN r1.data.toList = i + digN (r1.data.toList.drop i)) ∧ Aside0 (Own w wr2 ([a, b].getD 0 0 : Nat) ([a, b].getD 1 0 : Nat) ([a, b].getD 2 0 : Nat) ⟨#[]⟩ ⟨#[]⟩ s) ∧ Aside0 (wr2.heap[wc.heap.size]? = some (.cells #[.pointer (some ⟨w.heap.size + 1 + 1, 0, none⟩), .pointer (some ⟨w.heap.size + 1 + 1, 1, none⟩), .pointer (some ⟨w.heap.size + 1 + 1, 2, none⟩)] 255 (0, 0)))) (fun v11 _ => r1.size - (intOf v11).toNat)
       case atStart => exact ⟨0, rfl, by omega, ⟨by simp⟩, HO, HP⟩
       case round =>
        obtain ⟨i, rfl, hi, HD, HO, HP⟩ := hrel
        by_cases hlt : i < r1.size
        ·have HS := Lib.hid (digN_step hlt)
         by_cases q1 : 48 ≤ (r1[i]).toNat
         ·by_cases q2 : (r1[i]).toNat ≤ 57
          ·have q3 : decide ((48 : Int) ≤ ((r1[i]).toNat : Int)) = true := decide_eq_true (by omega)
           have q4 : decide (((r1[i]).toNat : Int) ≤ 57) = true := decide_eq_true (by omega)
           have HD2 := Aside0.mk (show digN r1.data.toList = (i + 1) + digN (r1.data.toList.drop (i + 1)) by rw [HD.out, HS.out, if_pos ⟨q1, q2⟩]; omega)
           clear q1 q2
           go_wp2_with fail
           go_roundw
           case rel => exact ⟨i + 1, by simp, by omega, HD2, HO, HP⟩
           case measure => simp [intOf]; omega
          ·have q3 : decide ((48 : Int) ≤ ((r1[i]).toNat : Int)) = true := decide_eq_true (by omega)
           have q4 : decide (((r1[i]).toNat : Int) ≤ 57) = false := decide_eq_false (by omega)
           have HE := Aside0.mk (show digN r1.data.toList = i by rw [HD.out, HS.out, if_neg (fun h => q2 h.2)]; omega)
           clear q1 q2
           go_wp2_with fail
           go_meet
           case rel => exact ⟨by rw [HE.out], HO, HP⟩
         ·have q3 : decide ((48 : Int) ≤ ((r1[i]).toNat : Int)) = false := decide_eq_false (by omega)
          have HE := Aside0.mk (show digN r1.data.toList = i by rw [HD.out, HS.out, if_neg (fun h => q1 h.1)]; omega)
          clear q1
          go_wp2_with fail
          go_meet
          case rel => exact ⟨by rw [HE.out], HO, HP⟩
        ·have HE := Aside0.mk (show digN r1.data.toList = i by rw [HD.out, digN_end hlt]; omega)
         go_wp2_with fail
         go_meet
         case rel => exact ⟨by rw [HE.out], HO, HP⟩
      case rest =>
       clear hp HO HP
       obtain ⟨rfl, HO, HP⟩ := hcut
       have hnl := digN_le r1.data.toList
       have hnl2 : digN r1.data.toList ≤ r1.size := by
        have e : r1.data.toList.length = r1.size := Array.length_toList
        omega
       clear hnl
       by_cases hn0 : digN r1.data.toList = 0
       ·have HBAD := Lib.hid (readV_none (s := s) (by rw [← HRL.out, ← HN.out]; exact nums_none (m := 0) (numOf_zero hn0)))
        have q0 : (((digN r1.data.toList : Nat) : Int) == 0) = true := by rw [hn0]; rfl
        clear hn0
        generalize digN r1.data.toList = n at *
        have r0 := blk_cell (HO.out).res 0
        have t0 := blk_frozen (HO.out).res 0
        have r1 := blk_cell (HO.out).res 1
        have t1 := blk_frozen (HO.out).res 1
        have r2 := blk_cell (HO.out).res 2
        have t2 := blk_frozen (HO.out).res 2
        have r3 := blk_cell (HO.out).res 3
        have t3 := blk_frozen (HO.out).res 3
        have r4 := blk_cell (HO.out).res 4
        have t4 := blk_frozen (HO.out).res 4
        have r5 := blk_cell (HO.out).res 5
        have t5 := blk_frozen (HO.out).res 5
        go_wp2_with fail
        refine bodyPost_ret (v := .tuple #[.agg zSV, .int .i64 0, .iface 260 (.pointer (some ⟨w.heap.size + 1, 0, none⟩))]) (by simp [results, Tryz.results143, go_sem, *]) rfl (readEnd_bad HBAD.out ?_)
        exact ((((((HO.out.bel).setCell (Nat.le_refl _) _).setCell (Nat.le_refl _) _).setCell (Nat.le_refl _) _).setCell (Nat.le_refl _) _).setCell (Nat.le_refl _) _).setCell (Nat.le_refl _) _
       ·have q0 : (((digN r1.data.toList : Nat) : Int) == 0) = false := by rw [beq_eq_false_iff_ne]; omega
        have HU := Lib.hid (fun (u : Nat) (h : Lib.parseUintB 64 (r1.extract 0 (digN r1.data.toList)).data.toList = .ok u) => numOf_ok (l := r1.data.toList) hn0 (by rw [take_data] at h; exact h))
        have HW := Lib.hid (fun (h : ∀ u : Nat, Lib.parseUintB 64 (r1.extract 0 (digN r1.data.toList)).data.toList ≠ .ok u) => numOf_bad (l := r1.data.toList) (by rw [take_data] at h; exact h))
        have HDD := Lib.hid (drop_data r1 (digN r1.data.toList))
        have hcut := cut_from r1 (digN r1.data.toList) hnl2
        have CU := Lib.hid (uint_any (r1.extract 0 (digN r1.data.toList)) (by simp only [ByteArray.size_extract]; omega) wc (HV.out.below HO.out.bel))
        clear hn0
        have hms : (r1.extract (digN r1.data.toList) r1.size).size ≤ 2147483647 := by simp only [ByteArray.size_extract]; omega
        generalize digN r1.data.toList = n at *
        go_wp2_with (first | (go_at_call 152; ((with_reducible refine CU.out.mono ?_); rintro e w5 ⟨nn, err, rfl, hb, hor⟩; refine Hid.out ?_)))
        have HO5 := Aside0.mk (HO.out.below hb)
        have HP5 := Aside0.mk (blk_below HP.out hb)
        have HOR := Lib.hid hor
        clear hb hor CU
        rcases HOR.out with ⟨u, rfl, hu, rfl⟩ | ⟨hno, tt, ad, rfl⟩
        ·have HNU := Lib.hid (HU.out u hu)
         clear hu HOR HU HW
         have x0 := blk_cell HO5.out.ver 2
         have y0 := blk_frozen HO5.out.ver 2
         have HO6 := Aside0.mk (HO5.out.put2 (u : Int))
         have HP6 := Aside0.mk (blk_far HP5.out (p := ⟨w.heap.size + 1 + 1, 2, none⟩) HNE.out (.int .u64 (u : Int)))
         generalize r1.extract n r1.size = m at *
         have HMS := Lib.hid hms
         clear hnl2
         rcases Nat.eq_zero_or_pos m.size with hm0 | hm0
         ·have hem := isEmpty_true hm0
          have HR := Aside0.mk (show nums 3 [] r.data.toList = some ([a, b, u], m.data.toList) by rw [← HN.out]; exact nums_stop (m := 0) (by rw [HNU.out, ← HDD.out]) (.inl (by rw [goOn_begins, begins_nil hm0])))
          clear HP5 HP6
          refine Lib.hid ?_
          go_wp2_with fail
          go_meet
          case rel => exact ⟨m, [a, b, u], rfl, by simp, HMS.out, HR, HO6⟩
         ·have hem := isEmpty_false hm0
          have hbg := begins_at (c := 46) hm0
          by_cases hq : (m[0]).toNat = 46
          ·have qn : (((m[0]).toNat : Int) != 46) = false := by rw [bne_eq_false_iff_eq]; omega
           have HR := Aside0.mk (show nums 3 [] r.data.toList = some ([a, b, u], m.data.toList) by rw [← HN.out]; exact nums_stop (m := 0) (by rw [HNU.out, ← HDD.out]) (.inr rfl))
           clear HP5 HP6 hq hbg
           refine Lib.hid ?_
           go_wp2_with fail
           go_meet
           case rel => exact ⟨m, [a, b, u], rfl, by simp, HMS.out, HR, HO6⟩
          ·have qn : (((m[0]).toNat : Int) != 46) = true := by rw [bne_iff_ne]; omega
           have HR := Aside0.mk (show nums 3 [] r.data.toList = some ([a, b, u], m.data.toList) by rw [← HN.out]; exact nums_stop (m := 0) (by rw [HNU.out, ← HDD.out]) (.inl (by rw [goOn_begins, hbg]; exact beq_eq_false_iff_ne.2 hq)))
           clear HP5 HP6 hq hbg
           refine Lib.hid ?_
           go_wp2_with fail
           go_meet
           case rel => exact ⟨m, [a, b, u], rfl, by simp, HMS.out, HR, HO6⟩
        ·have HBAD := Lib.hid (readV_none (s := s) (by rw [← HRL.out, ← HN.out]; exact nums_none (m := 0) (HW.out hno)))
         clear hno HOR HU HW
         have r0 := blk_cell (HO5.out).res 0
         have t0 := blk_frozen (HO5.out).res 0
         have r1 := blk_cell (HO5.out).res 1
         have t1 := blk_frozen (HO5.out).res 1
         have r2 := blk_cell (HO5.out).res 2
         have t2 := blk_frozen (HO5.out).res 2
         have r3 := blk_cell (HO5.out).res 3
         have t3 := blk_frozen (HO5.out).res 3
         have r4 := blk_cell (HO5.out).res 4
         have t4 := blk_frozen (HO5.out).res 4
         have r5 := blk_cell (HO5.out).res 5
         have t5 := blk_frozen (HO5.out).res 5
         refine Lib.hid ?_
         go_wp2_with fail
         refine bodyPost_ret (v := .tuple #[.agg zSV, .int .i64 0, .iface 260 (.pointer (some ⟨w.heap.size + 1, 0, none⟩))]) (by simp [results, Tryz.results143, go_sem, *]) rfl (readEnd_bad HBAD.out ?_)
         exact ((((((HO5.out.bel).setCell (Nat.le_refl _) _).setCell (Nat.le_refl _) _).setCell (Nat.le_refl _) _).setCell (Nat.le_refl _) _).setCell (Nat.le_refl _) _).setCell (Nat.le_refl _) _
   case rest =>
    clear HO
    obtain ⟨r1, ns, rfl, rfl, hr1, HR, HO⟩ := hcut
    go_upto_region 23 with fail
    go_cut [99] from 93 to 99 (fun v wx => v = .bool (begins r1.data.toList 45) ∧ Aside0 (Own w wx (ns.getD 0 0 : Nat) (ns.getD 1 0 : Nat) (ns.getD 2 0 : Nat) ⟨#[]⟩ ⟨#[]⟩ s))
    case first =>
     rcases Nat.eq_zero_or_pos r1.size with h0 | h0
     ·have hem := isEmpty_true h0
      have hbg := begins_nil (c := 45) h0
      go_wp2_with fail
      go_meet
      case rel => exact ⟨by rw [hbg], HO⟩
     ·have hem := isEmpty_false h0
      have hbg := begins_at (c := 45) h0
      rw [← cast_beq] at hbg
      have HBG := Lib.hid hbg
      clear hbg
      go_wp2_with fail
      go_meet
      case rel => exact ⟨by rw [HBG.out]; rfl, HO⟩
    case rest =>
     clear HO
     obtain ⟨rfl, HO⟩ := hcut
     go_upto_if 99 with fail
     go_cut [7, 14] from 99 to 114 (fun v7 _ wx => ∃ (r2 : ByteArray) (pre : List UInt8), v7 = .string r2 ∧ r2.size ≤ 2147483647 ∧ Aside0 (part 45 r1.data.toList = some (pre, r2.data.toList)) ∧ Aside0 (Own w wx (ns.getD 0 0 : Nat) (ns.getD 1 0 : Nat) (ns.getD 2 0 : Nat) ⟨pre.toArray⟩ ⟨#[]⟩ s))
     case first =>
      cases hq : begins r1.data.toList 45 with
      | false =>
       have HPN := Aside0.mk (part_not (c := 45) hq)
       go_wp2_with fail
       go_meet
       case rel => exact ⟨r1, [], rfl, hr1, HPN, HO⟩
      | true =>
       have h0 := begins_pos hq
       have hc0 := cut_from r1 1 (by omega)
       have hxs : (r1.extract 1 r1.size).size = r1.size - 1 := by simp only [ByteArray.size_extract]; omega
       have HI := Lib.hid (ident_any (r1.extract 1 r1.size) (by omega))
       have hnl := ident_size (r1.extract 1 r1.size)
       have HPP := Lib.hid (part_is (s := r1) (c := 45) hq)
       have HP0 := Lib.hid (part_bad (s := r1) (c := 45) hq)
       generalize identN (r1.extract 1 r1.size).data.toList = n at *
       by_cases hn0 : n = 0
       ·have HNN := Lib.hid (HP0.out hn0)
        have HBAD := Lib.hid (show readV s = none from readV_pre (by rw [← HRL.out]; exact HR.out) HNN.out)
        have q0 : ((n : Int) == 0) = true := by rw [hn0]; rfl
        clear hn0 hq
        have r0 := blk_cell (HO.out).res 0
        have t0 := blk_frozen (HO.out).res 0
        have r1 := blk_cell (HO.out).res 1
        have t1 := blk_frozen (HO.out).res 1
        have r2 := blk_cell (HO.out).res 2
        have t2 := blk_frozen (HO.out).res 2
        have r3 := blk_cell (HO.out).res 3
        have t3 := blk_frozen (HO.out).res 3
        have r4 := blk_cell (HO.out).res 4
        have t4 := blk_frozen (HO.out).res 4
        have r5 := blk_cell (HO.out).res 5
        have t5 := blk_frozen (HO.out).res 5
        go_wp2_with (first | (go_at_call 153; ((with_reducible refine (HI.out _).mono ?_); rintro e w5 ⟨rfl, nd, rfl⟩)))
        refine bodyPost_ret (v := .tuple #[.agg zSV, .int .i64 0, .iface 260 (.pointer (some ⟨w.heap.size + 1, 0, none⟩))]) (by simp [results, Tryz.results143, go_sem, *]) rfl (readEnd_bad HBAD.out ?_)
        exact ((((((pw_below_drewN HO.out.bel nd).setCell (Nat.le_refl _) _).setCell (Nat.le_refl _) _).setCell (Nat.le_refl _) _).setCell (Nat.le_refl _) _).setCell (Nat.le_refl _) _).setCell (Nat.le_refl _) _
       ·have HPN := Aside0.mk (HPP.out hn0)
        have q0 : ((n : Int) == 0) = false := by rw [beq_eq_false_iff_ne]; omega
        have hs1 := cut_mid r1 1 (1 + n) (by omega) (by omega)
        have hs2 := cut_from r1 (1 + n) (by omega)
        rw [show ((1 + n : Nat) : Int) = 1 + (n : Int) by omega] at hs1 hs2
        rw [show ((1 : Nat) : Int) = 1 from rfl] at hs1 hc0
        have hp2 : (r1.extract (1 + n) r1.size).size ≤ 2147483647 := by simp only [ByteArray.size_extract]; omega
        have x0 := blk_cell HO.out.ver 3
        have y0 := blk_frozen HO.out.ver 3
        clear hn0 hq HPP HP0
        generalize r1.extract 1 (1 + n) = p1 at *
        generalize r1.extract (1 + n) r1.size = p2 at *
        have HO2 := Aside0.mk (HO.out.put3 p1)
        have HSZ := Lib.hid hp2
        clear hp2
        go_wp2_with (first | (go_at_call 153; ((with_reducible refine (HI.out _).mono ?_); rintro e w5 ⟨rfl, nd, rfl⟩)))
        go_region
        all_goals
         go_wp2_with fail
         go_meet
         case rel => exact ⟨p2, p1.data.toList, rfl, HSZ.out, HPN, ⟨by rw [back_bytes]; exact (HO.out.drewN (nd + 1)).put3 p1⟩⟩
     case rest =>
      clear HO
      obtain ⟨r2, pre, rfl, hr2, HP1, HO⟩ := hcut
      go_upto_region 28 with fail
      go_cut [122] from 116 to 122 (fun v wx => v = .bool (begins r2.data.toList 43) ∧ Aside0 (Own w wx (ns.getD 0 0 : Nat) (ns.getD 1 0 : Nat) (ns.getD 2 0 : Nat) ⟨pre.toArray⟩ ⟨#[]⟩ s))
      case first =>
       rcases Nat.eq_zero_or_pos r2.size with h0 | h0
       ·have hem := isEmpty_true h0
        have hbg := begins_nil (c := 43) h0
        go_wp2_with fail
        go_meet
        case rel => exact ⟨by rw [hbg], HO⟩
       ·have hem := isEmpty_false h0
        have hbg := begins_at (c := 43) h0
        rw [← cast_beq] at hbg
        have HBG := Lib.hid hbg
        clear hbg
        go_wp2_with fail
        go_meet
        case rel => exact ⟨by rw [HBG.out]; rfl, HO⟩
      case rest =>
       clear HO
       obtain ⟨rfl, HO⟩ := hcut
       go_upto_if 122 with fail
       go_cut [7, 15] from 122 to 137 (fun v7 _ wx => ∃ (r3 : ByteArray) (mt : List UInt8), v7 = .string r3 ∧ r3.size ≤ 2147483647 ∧ Aside0 (part 43 r2.data.toList = some (mt, r3.data.toList)) ∧ Aside0 (Own w wx (ns.getD 0 0 : Nat) (ns.getD 1 0 : Nat) (ns.getD 2 0 : Nat) ⟨pre.toArray⟩ ⟨mt.toArray⟩ s))
       case first =>
        cases hq : begins r2.data.toList 43 with
        | false =>
         have HPN := Aside0.mk (part_not (c := 43) hq)
         go_wp2_with fail
         go_meet
         case rel => exact ⟨r2, [], rfl, hr2, HPN, HO⟩
        | true =>
         have h0 := begins_pos hq
         have hc0 := cut_from r2 1 (by omega)
         have hxs : (r2.extract 1 r2.size).size = r2.size - 1 := by simp only [ByteArray.size_extract]; omega
         have HI := Lib.hid (ident_any (r2.extract 1 r2.size) (by omega))
         have hnl := ident_size (r2.extract 1 r2.size)
         have HPP := Lib.hid (part_is (s := r2) (c := 43) hq)
         have HP0 := Lib.hid (part_bad (s := r2) (c := 43) hq)
         generalize identN (r2.extract 1 r2.size).data.toList = n at *
         by_cases hn0 : n = 0
         ·have HNN := Lib.hid (HP0.out hn0)
          have HBAD := Lib.hid (show readV s = none from readV_mt (by rw [← HRL.out]; exact HR.out) HP1.out HNN.out)
          have q0 : ((n : Int) == 0) = true := by rw [hn0]; rfl
          clear hn0 hq
          have r0 := blk_cell (HO.out).res 0
          have t0 := blk_frozen (HO.out).res 0
          have r1 := blk_cell (HO.out).res 1
          have t1 := blk_frozen (HO.out).res 1
          have r2 := blk_cell (HO.out).res 2
          have t2 := blk_frozen (HO.out).res 2
          have r3 := blk_cell (HO.out).res 3
          have t3 := blk_frozen (HO.out).res 3
          have r4 := blk_cell (HO.out).res 4
          have t4 := blk_frozen (HO.out).res 4
          have r5 := blk_cell (HO.out).res 5
          have t5 := blk_frozen (HO.out).res 5
          go_wp2_with (first | (go_at_call 153; ((with_reducible refine (HI.out _).mono ?_); rintro e w5 ⟨rfl, nd, rfl⟩)))
          refine bodyPost_ret (v := .tuple #[.agg zSV, .int .i64 0, .iface 260 (.pointer (some ⟨w.heap.size + 1, 0, none⟩))]) (by simp [results, Tryz.results143, go_sem, *]) rfl (readEnd_bad HBAD.out ?_)
          exact ((((((pw_below_drewN HO.out.bel nd).setCell (Nat.le_refl _) _).setCell (Nat.le_refl _) _).setCell (Nat.le_refl _) _).setCell (Nat.le_refl _) _).setCell (Nat.le_refl _) _).setCell (Nat.le_refl _) _
         ·have HPN := Aside0.mk (HPP.out hn0)
          have q0 : ((n : Int) == 0) = false := by rw [beq_eq_false_iff_ne]; omega
          have hs1 := cut_mid r2 1 (1 + n) (by omega) (by omega)
          have hs2 := cut_from r2 (1 + n) (by omega)
          rw [show ((1 + n : Nat) : Int) = 1 + (n : Int) by omega] at hs1 hs2
          rw [show ((1 : Nat) : Int) = 1 from rfl] at hs1 hc0
          have hp2 : (r2.extract (1 + n) r2.size).size ≤ 2147483647 := by simp only [ByteArray.size_extract]; omega
          have x0 := blk_cell HO.out.ver 4
          have y0 := blk_frozen HO.out.ver 4
          clear hn0 hq HPP HP0
          generalize r2.extract 1 (1 + n) = p1 at *
          generalize r2.extract (1 + n) r2.size = p2 at *
          have HO2 := Aside0.mk (HO.out.put4 p1)
          have HSZ := Lib.hid hp2
          clear hp2
          go_wp2_with (first | (go_at_call 153; ((with_reducible refine (HI.out _).mono ?_); rintro e w5 ⟨rfl, nd, rfl⟩)))
          go_region
          all_goals
           go_wp2_with fail
           go_meet
           case rel => exact ⟨p2, p1.data.toList, rfl, HSZ.out, HPN, ⟨by rw [back_bytes]; exact (HO.out.drewN (nd + 1)).put4 p1⟩⟩
       case rest =>
        clear HO
        obtain ⟨r3, mt, rfl, hr3, HP2, HO⟩ := hcut
        rcases Nat.eq_zero_or_pos r3.size with h0 | h0
        ·have hem := isEmpty_true h0
         have HG := Lib.hid (readV_ok (s := s) (by rw [← HRL.out]; exact HR.out) HP1.out HP2.out (list_nil h0))
         have r0 := blk_cell (HO.out).res 0
         have t0 := blk_frozen (HO.out).res 0
         have r1 := blk_cell (HO.out).res 1
         have t1 := blk_frozen (HO.out).res 1
         have r2 := blk_cell (HO.out).res 2
         have t2 := blk_frozen (HO.out).res 2
         have r3 := blk_cell (HO.out).res 3
         have t3 := blk_frozen (HO.out).res 3
         have r4 := blk_cell (HO.out).res 4
         have t4 := blk_frozen (HO.out).res 4
         have r5 := blk_cell (HO.out).res 5
         have t5 := blk_frozen (HO.out).res 5
         have z0 := blk_cell HO.out.ver 0
         have z1 := blk_cell HO.out.ver 1
         have z2 := blk_cell HO.out.ver 2
         have z3 := blk_cell HO.out.ver 3
         have z4 := blk_cell HO.out.ver 4
         have z5 := blk_cell HO.out.ver 5
         clear h0
         generalize ns.getD 0 0 = n0 at *
         generalize ns.getD 1 0 = n1 at *
         generalize ns.getD 2 0 = n2 at *
         generalize (⟨pre.toArray⟩ : ByteArray) = pp at *
         generalize (⟨mt.toArray⟩ : ByteArray) = mm at *
         go_wp2_with fail
         refine bodyPost_ret (v := .tuple #[.agg #[.int .u64 (n0 : Int), .int .u64 (n1 : Int), .int .u64 (n2 : Int), .string pp, .string mm, .string s], .int .i64 (ns.length : Int), .nilIface]) (by simp [results, Tryz.results143, go_sem, *]) rfl (readEnd_good HG.out ?_)
         exact ((((((HO.out.bel).setCell (Nat.le_refl _) _).setCell (Nat.le_refl _) _).setCell (Nat.le_refl _) _).setCell (Nat.le_refl _) _).setCell (Nat.le_refl _) _).setCell (Nat.le_refl _) _
        ·have hem := isEmpty_false h0
         have HBAD := Lib.hid (readV_rest (s := s) (by rw [← HRL.out]; exact HR.out) HP1.out HP2.out (list_some h0))
         have r0 := blk_cell (HO.out).res 0
         have t0 := blk_frozen (HO.out).res 0
         have r1 := blk_cell (HO.out).res 1
         have t1 := blk_frozen (HO.out).res 1
         have r2 := blk_cell (HO.out).res 2
         have t2 := blk_frozen (HO.out).res 2
         have r3 := blk_cell (HO.out).res 3
         have t3 := blk_frozen (HO.out).res 3
         have r4 := blk_cell (HO.out).res 4
         have t4 := blk_frozen (HO.out).res 4
         have r5 := blk_cell (HO.out).res 5
         have t5 := blk_frozen (HO.out).res 5
         clear h0
         go_wp2_with fail
         refine bodyPost_ret (v := .tuple #[.agg zSV, .int .i64 0, .iface 260 (.pointer (some ⟨w.heap.size + 1, 0, none⟩))]) (by simp [results, Tryz.results143, go_sem, *]) rfl (readEnd_bad HBAD.out ?_)
         exact ((((((HO.out.bel).setCell (Nat.le_refl _) _).setCell (Nat.le_refl _) _).setCell (Nat.le_refl _) _).setCell (Nat.le_refl _) _).setCell (Nat.le_refl _) _).setCell (Nat.le_refl _) _
end Go.Proofs.YtgoeiflddikihaaGreatDoor.Ver
end
section
namespace Go.Proofs.YtgoeiflddikihaaGreatDoor.Ver
open Go.RowKit Go.Proofs.YtgoeiflddikihaaGreatDoor.Dig Go.Proofs.YtgoeiflddikihaaGreatDoorW.PrintWords
def qSplitOn (c : UInt8) : List UInt8 → List (List UInt8)
 | [] => [[]]
 | x :: r => if x = c then [] :: qSplitOn c r else match qSplitOn c r with
  | h :: t => (x :: h) :: t
  | [] => [[x]]
def qCutAt (c : UInt8) : List UInt8 → List UInt8 × Option (List UInt8)
 | [] => ([], none)
 | x :: r => if x = c then ([], some r) else ((x :: (qCutAt c r).1), (qCutAt c r).2)
def qIdentsB (l : List UInt8) : Bool := (qSplitOn 46 l).all fun x => !x.isEmpty && x.all isId
def qNumB (l : List UInt8) : Option Nat := match Lib.parseUintB 64 l with
 | .ok u => some u
 | _ => none
def qNumsB : List (List UInt8) → Option (List Nat)
 | [] => some []
 | x :: r => match qNumB x, qNumsB r with
  | some a, some b => some (a :: b)
  | _, _ => none
def qOptB : Option (List UInt8) → Option (List UInt8)
 | none => some []
 | some p => if qIdentsB p then some p else none
def qSemB0 (l : List UInt8) : Option (List Nat × List UInt8 × List UInt8) :=
 let a := qCutAt 43 (bare0 l)
 match qOptB a.2 with
 | none => none
 | some mt =>
  let b := qCutAt 45 a.1
  match qOptB b.2 with
  | none => none
  | some pre =>
   let ps := qSplitOn 46 b.1
   if 3 < ps.length then none else match qNumsB ps with
    | none => none
    | some ns => some (ns, pre, mt)
theorem qSplitOn_ne (c : UInt8) : ∀ l, qSplitOn c l ≠ []
 | [] => by simp [qSplitOn]
 | x :: r => by
  unfold qSplitOn
  split
  ·simp
  ·split <;> simp
theorem qSplitOn_cons {c x : UInt8} {r : List UInt8} (h : x ≠ c) : ∃ p q, qSplitOn c r = p :: q ∧ qSplitOn c (x :: r) = (x :: p) :: q := by
 cases e : qSplitOn c r with
 | nil => exact absurd e (qSplitOn_ne c r)
 | cons p q => exact ⟨p, q, rfl, by rw [qSplitOn, if_neg h, e]⟩
def qIdAll : List UInt8 → Bool → Bool
 | [], p => p
 | c :: r, p => if isId c then qIdAll r true else if c = 46 ∧ p then qIdAll r false else false
theorem qDot_not_id : isId 46 = false := by decide
theorem qIdAll_split : ∀ (l : List UInt8) (p : Bool), qIdAll l p = (match qSplitOn 46 l with
  | h :: t => (p || !h.isEmpty) && h.all isId && t.all (fun x => !x.isEmpty && x.all isId)
  | [] => false)
 | [], p => by simp [qIdAll, qSplitOn]
 | c :: r, p => by
  by_cases hc : c = 46
  ·subst hc
   rw [qIdAll, qDot_not_id, qSplitOn, if_pos rfl]
   have ih := qIdAll_split r false
   cases p with
   | false => simp
   | true =>
    simp only [and_self, if_true]
    rw [ih]
    cases e : qSplitOn 46 r with
    | nil => exact absurd e (qSplitOn_ne _ _)
    | cons h t => simp [Bool.and_assoc]
  ·obtain ⟨h, t, e1, e2⟩ := qSplitOn_cons (r := r) hc
   rw [qIdAll, e2]
   have ih := qIdAll_split r true
   rw [e1] at ih
   by_cases hi : isId c = true
   ·rw [if_pos hi, ih]; simp [hi]
   ·rw [if_neg hi, if_neg (fun x => hc x.1)]; simp [hi]
theorem qIdentsB_idAll (l : List UInt8) : qIdentsB l = qIdAll l false := by
 rw [qIdAll_split, qIdentsB]
 cases e : qSplitOn 46 l with
 | nil => exact absurd e (qSplitOn_ne _ _)
 | cons h t => simp
theorem qNat46 (c : UInt8) : (c.toNat = 46) ↔ c = 46 := by
 constructor
 ·intro h; exact UInt8.toNat_inj.1 (by rw [h]; rfl)
 ·rintro rfl; rfl
def qStops : List UInt8 → Bool
 | [] => true
 | c :: _ => !isId c && c != 46
theorem qIdentGo_app (t : List UInt8) (ht : qStops t = true) : ∀ (l : List UInt8) (i n p : Nat), identGo (l ++ t) i n p = identGo l i n p
 | [], i, n, p => by
  cases t with
  | nil => rfl
  | cons c r =>
   simp [qStops] at ht
   simp only [List.nil_append, identGo, ht.1, qNat46, ht.2]; simp
 | c :: l, i, n, p => by
  rw [List.cons_append, identGo, identGo, qIdentGo_app t ht l, qIdentGo_app t ht l]
theorem qIdentGo_bound : ∀ (l : List UInt8) (i n p : Nat), n ≤ i → identGo l i n p ≤ i + l.length
 | [], i, n, p, h => by simp [identGo]; omega
 | c :: r, i, n, p, h => by
  simp only [identGo, List.length_cons]
  split
  ·have := qIdentGo_bound r (i + 1) (i + 1) (p + 1) (by omega); omega
  ·split
   ·have := qIdentGo_bound r (i + 1) n 0 (by omega); omega
   ·omega
theorem qIdentGo_all : ∀ (l : List UInt8) (i n p : Nat), n ≤ i → (0 < p ↔ n = i ∧ 0 < i) → (l ≠ [] ∨ 0 < i) → ((identGo l i n p = i + l.length) ↔ qIdAll l (decide (0 < p)) = true)
 | [], i, n, p, h, hp, h0 => by
  simp only [identGo, qIdAll, List.length_nil, Nat.add_zero, decide_eq_true_eq]
  rcases h0 with h0 | h0
  ·exact absurd rfl h0
  ·constructor
   ·intro e; exact hp.2 ⟨e, h0⟩
   ·intro e; exact (hp.1 e).1
 | c :: r, i, n, p, h, hp, h0 => by
  simp only [identGo, qIdAll, List.length_cons]
  by_cases hi : isId c = true
  ·rw [if_pos hi, if_pos hi]
   have ih := qIdentGo_all r (i + 1) (i + 1) (p + 1) (Nat.le_refl _) (by omega) (Or.inr (by omega))
   rw [show decide (0 < p + 1) = true from by simp] at ih
   rw [← ih]; omega
  ·rw [if_neg hi, if_neg hi]
   simp only [qNat46, decide_eq_true_eq]
   by_cases hd : c = 46 ∧ 0 < p
   ·rw [if_pos hd, if_pos hd]
    have ih := qIdentGo_all r (i + 1) n 0 (by omega) (by omega) (Or.inr (by omega))
    rw [show decide (0 < 0) = false from rfl] at ih
    rw [← ih]; omega
   ·rw [if_neg hd, if_neg hd]
    simp; omega
theorem qIdentN_all (l : List UInt8) : (l ≠ [] ∧ identN l = l.length) ↔ qIdentsB l = true := by
 rw [qIdentsB_idAll]
 cases l with
 | nil => simp [qIdAll]
 | cons c r =>
  have := qIdentGo_all (c :: r) 0 0 0 (Nat.le_refl _) (by omega) (Or.inl (by simp))
  rw [Nat.zero_add] at this
  simp only [ne_eq, reduceCtorEq, not_false_eq_true, true_and]
  exact this
theorem qPart_some {c : UInt8} {p t : List UInt8} (ht : qStops t = true) (h : qIdentsB p = true) : part c (c :: (p ++ t)) = some (p, t) := by
 obtain ⟨hne, hn⟩ := (qIdentN_all p).2 h
 have e : identN (p ++ t) = p.length := by rw [← hn]; exact qIdentGo_app t ht p 0 0 0
 have hl : p.length ≠ 0 := fun x => hne (List.length_eq_zero_iff.1 x)
 rw [part, if_pos rfl, e, if_neg hl, List.take_left, List.drop_left]
theorem qPart_bad {c : UInt8} {p t : List UInt8} (ht : qStops t = true) (h : qIdentsB p = false) :
  part c (c :: (p ++ t)) = none ∨ ∃ q x r, part c (c :: (p ++ t)) = some (q, x :: r ++ t) ∧ x :: r <:+ p := by
 have e : identN (p ++ t) = identN p := qIdentGo_app t ht p 0 0 0
 rw [part, if_pos rfl, e]
 by_cases h0 : identN p = 0
 ·left; rw [if_pos h0]
 ·right
  rw [if_neg h0]
  have hle : identN p ≤ p.length := by have := qIdentGo_bound p 0 0 0 (Nat.le_refl _); unfold identN; omega
  have hlt : identN p < p.length := by
   rcases Nat.lt_or_eq_of_le hle with h1 | h1
   ·exact h1
   ·exfalso
    have : qIdentsB p = true := (qIdentN_all p).1 ⟨fun x => by subst x; simp [identN, identGo] at h0, h1⟩
    rw [h] at this; cases this
  rw [List.drop_append_of_le_length hle]
  cases e2 : p.drop (identN p) with
  | nil => rw [List.drop_eq_nil_iff] at e2; omega
  | cons x r => exact ⟨_, x, r, rfl, by rw [← e2]; exact List.drop_suffix _ _⟩
theorem qCutAt_none : ∀ {c : UInt8} {l a : List UInt8}, qCutAt c l = (a, none) → a = l ∧ c ∉ l
 | c, [], a, h => by simp [qCutAt] at h; simp [h]
 | c, x :: r, a, h => by
  rw [qCutAt] at h
  split at h
  ·simp at h
  ·rename_i hx
   simp only [Prod.mk.injEq] at h
   have ih := qCutAt_none (c := c) (l := r) (a := (qCutAt c r).1) (by rw [← h.2])
   rw [← h.1, ih.1]
   exact ⟨rfl, by simp [ih.2, Ne.symm hx]⟩
theorem qCutAt_some : ∀ {c : UInt8} {l a b : List UInt8}, qCutAt c l = (a, some b) → l = a ++ c :: b ∧ c ∉ a
 | c, [], a, b, h => by simp [qCutAt] at h
 | c, x :: r, a, b, h => by
  rw [qCutAt] at h
  split at h
  ·rename_i hx
   simp only [Prod.mk.injEq, Option.some.injEq] at h
   rw [← h.1, ← h.2, hx]; simp
  ·rename_i hx
   simp only [Prod.mk.injEq] at h
   have ih := qCutAt_some (c := c) (l := r) (a := (qCutAt c r).1) (b := b) (by rw [← h.2])
   rw [← h.1]
   exact ⟨by rw [List.cons_append, ← ih.1], by simp [ih.2, Ne.symm hx]⟩
def qNoDig : List UInt8 → Bool
 | [] => true
 | c :: _ => !isDig c && c != 46
theorem qDigN_len : ∀ l : List UInt8, digN l ≤ l.length
 | [] => Nat.le_refl _
 | c :: r => by
  simp only [digN, List.length_cons]
  have := qDigN_len r
  split <;> omega
theorem qDigN_all : ∀ l : List UInt8, digN l = l.length ↔ l.all isDig = true
 | [] => by simp [digN]
 | c :: r => by
  have ih := qDigN_all r
  simp only [digN, List.length_cons, List.all_cons, Bool.and_eq_true]
  by_cases h : isDig c = true
  ·rw [if_pos h]; simp [h, ← ih]
  ·rw [if_neg h]; simp [h]
theorem parseM_dig : ∀ {M acc : Nat} {l : List UInt8} {u : Nat}, Lib.parseUintM M acc l = .ok u → l.all isDig = true
 | _, _, [], _, _ => rfl
 | M, acc, c :: r, u, h => by
  rw [Lib.parseUintM] at h
  split at h
  ·rename_i hc
   split at h
   ·cases h
   ·split at h
    ·cases h
    ·rw [List.all_cons, parseM_dig h]; simp [isDig, hc.1, hc.2]
  ·cases h
theorem qNumB_some {l : List UInt8} {u : Nat} (h : qNumB l = some u) : Lib.parseUintB 64 l = .ok u ∧ l ≠ [] ∧ l.all isDig = true := by
 unfold qNumB at h
 split at h
 ·rename_i x hx
  simp at h; subst h
  refine ⟨hx, ?_⟩
  unfold Lib.parseUintB at hx
  split at hx
  ·cases hx
  ·rename_i hne; exact ⟨hne, parseM_dig hx⟩
 ·cases h
theorem qNumOf_app {x t : List UInt8} (ht : t = [] ∨ ∃ c r, t = c :: r ∧ isDig c = false) :
  (∀ u, qNumB x = some u → numOf (x ++ t) = some (u, t)) ∧ (qNumB x = none → (∀ c r, x = c :: r → True) → numOf (x ++ t) = none ∨ ∃ a y r, numOf (x ++ t) = some (a, y :: r ++ t) ∧ isDig y = false ∧ y :: r <:+ x) := by
 have hd : digN (x ++ t) = digN x := by
  have : ∀ l, digN (l ++ t) = digN l := by
   intro l
   induction l with
   | nil =>
    rcases ht with rfl | ⟨c, r, rfl, hc⟩
    ·rfl
    ·simp [digN, hc]
   | cons c l ih => rw [List.cons_append, digN, digN, ih]
  exact this x
 refine ⟨?_, ?_⟩
 ·intro u hu
  obtain ⟨h1, h2, h3⟩ := qNumB_some hu
  have e := (qDigN_all x).2 h3
  have hl : x.length ≠ 0 := fun y => h2 (List.length_eq_zero_iff.1 y)
  rw [numOf, hd, e, if_neg hl, List.take_left, h1, List.drop_left]
 ·intro hn _
  unfold numOf
  rw [hd]
  by_cases h0 : digN x = 0
  ·left; rw [if_pos h0]
  ·rw [if_neg h0]
   have hle := qDigN_len x
   rw [List.take_append_of_le_length hle, List.drop_append_of_le_length hle]
   by_cases he : digN x = x.length
   ·left
    rw [he, List.take_length]
    unfold qNumB at hn
    split at hn
    ·cases hn
    ·rename_i hx
     cases hq : Lib.parseUintB 64 x <;> first | rfl | exact absurd hq (hx _)
   ·cases e2 : x.drop (digN x) with
    | nil => rw [List.drop_eq_nil_iff] at e2; omega
    | cons y r =>
     have hy : isDig y = false := by
      have : ∀ (l : List UInt8), l.drop (digN l) = y :: r → isDig y = false := by
       intro l
       induction l with
       | nil => simp
       | cons c l ih =>
        intro h
        rw [digN] at h
        split at h
        ·exact ih (by simpa using h)
        ·rename_i hc
         simp at h
         rw [← h.1]; simpa using hc
      exact this x e2
     split
     ·right; exact ⟨_, y, r, rfl, hy, by rw [← e2]; exact List.drop_suffix _ _⟩
     ·left; rfl
theorem qSplitOn_first (c : UInt8) (l : List UInt8) : ∃ x, c ∉ x ∧ ((l = x ∧ qSplitOn c l = [x]) ∨ ∃ r, l = x ++ c :: r ∧ qSplitOn c l = x :: qSplitOn c r) := by
 induction l with
 | nil => exact ⟨[], by simp, Or.inl ⟨rfl, rfl⟩⟩
 | cons y l ih =>
  by_cases hy : y = c
  ·subst hy
   exact ⟨[], by simp, Or.inr ⟨l, rfl, by rw [qSplitOn, if_pos rfl]⟩⟩
  ·obtain ⟨x, hx, h⟩ := ih
   refine ⟨y :: x, by simp [hx, Ne.symm hy], ?_⟩
   rcases h with ⟨rfl, h⟩ | ⟨r, rfl, h⟩
   ·left; exact ⟨rfl, by rw [qSplitOn, if_neg hy, h]⟩
   ·right; exact ⟨r, rfl, by rw [qSplitOn, if_neg hy, h]⟩
theorem qNoDig_alt {t : List UInt8} (h : qNoDig t = true) : t = [] ∨ ∃ c r, t = c :: r ∧ isDig c = false := by
 cases t with
 | nil => exact Or.inl rfl
 | cons c r => simp [qNoDig] at h; exact Or.inr ⟨c, r, rfl, h.1⟩
theorem qNums_app (t : List UInt8) (ht : qNoDig t = true) : ∀ (m : Nat) (acc : List Nat) (l : List UInt8),
  (∀ ns, (qSplitOn 46 l).length ≤ m → qNumsB (qSplitOn 46 l) = some ns → nums m acc (l ++ t) = some (acc ++ ns, t)) ∧
  ((m < (qSplitOn 46 l).length ∨ qNumsB (qSplitOn 46 l) = none) → nums m acc (l ++ t) = none ∨ ∃ ns y r, nums m acc (l ++ t) = some (ns, y :: r ++ t) ∧ y :: r <:+ l)
 | 0, acc, l => by
  refine ⟨fun ns h _ => ?_, fun _ => Or.inl rfl⟩
  have := qSplitOn_ne 46 l
  cases e : qSplitOn 46 l with
  | nil => exact absurd e this
  | cons a b => rw [e] at h; simp at h
 | m + 1, acc, l => by
  obtain ⟨x, hx, h⟩ := qSplitOn_first 46 l
  rcases h with ⟨rfl, h⟩ | ⟨r, rfl, h⟩
  ·-- one number
   obtain ⟨h1, h2⟩ := qNumOf_app (x := l) (qNoDig_alt ht)
   have hg : goOn t = false := by
    cases t with
    | nil => rfl
    | cons c r => simp [qNoDig] at ht; simp [goOn, ht.2]
   rw [h]
   refine ⟨?_, ?_⟩
   ·intro ns _ hns
    simp only [qNumsB] at hns
    cases hn : qNumB l with
    | none => rw [hn] at hns; simp at hns
    | some u =>
     rw [hn] at hns
     simp at hns
     subst hns
     rw [nums, h1 u hn]
     simp [hg]
   ·intro hbad
    have hn : qNumB l = none := by
     rcases hbad with hb | hb
     ·simp at hb
     ·simp only [qNumsB] at hb
      cases hn : qNumB l with
      | none => rfl
      | some u => rw [hn] at hb; simp at hb
    rcases h2 hn (fun _ _ _ => trivial) with e | ⟨a, y, r, e, hy, hm⟩
    ·left; rw [nums, e]
    ·have hy46 : y ≠ 46 := by
      intro e46
      subst e46
      skip
      exact hx (hm.subset (by simp))
     right
     refine ⟨acc ++ [a], y, r, ?_, hm⟩
     rw [nums, e]
     simp [goOn, hy46]
  ·-- a number, a dot, more
   have hdot : (46 : UInt8) :: (r ++ t) = [] ∨ ∃ c r', (46 : UInt8) :: (r ++ t) = c :: r' ∧ isDig c = false := Or.inr ⟨46, r ++ t, rfl, by decide⟩
   obtain ⟨h1, h2⟩ := qNumOf_app (x := x) hdot
   have eapp : x ++ 46 :: r ++ t = x ++ 46 :: (r ++ t) := by simp
   rw [h, eapp]
   have ih := qNums_app t ht m
   refine ⟨?_, ?_⟩
   ·intro ns hlen hns
    simp only [qNumsB] at hns
    cases hn : qNumB x with
    | none => rw [hn] at hns; simp at hns
    | some u =>
     rw [hn] at hns
     cases hr : qNumsB (qSplitOn 46 r) with
     | none => rw [hr] at hns; simp at hns
     | some b =>
      rw [hr] at hns
      simp at hns
      subst hns
      have hlen' : (qSplitOn 46 r).length ≤ m := by simpa using hlen
      have hm0 : 0 < m := by
       cases e : qSplitOn 46 r with
       | nil => exact absurd e (qSplitOn_ne _ _)
       | cons a b => rw [e] at hlen'; simp at hlen'; omega
      rw [nums, h1 u hn]
      simp only [goOn, beq_self_eq_true, Bool.true_and, decide_eq_true_eq, if_pos hm0, List.drop_one, List.tail_cons]
      rw [(ih (acc ++ [u]) r).1 b hlen' hr]
      simp
   ·intro hbad
    cases hn : qNumB x with
    | none =>
     rcases h2 hn (fun _ _ _ => trivial) with e | ⟨a, y, q, e, hy, hm⟩
     ·left; rw [nums, e]
     ·have hy46 : y ≠ 46 := by
       intro e46
       subst e46
       skip
       exact hx (hm.subset (by simp))
      right
      refine ⟨acc ++ [a], y, q ++ 46 :: r, ?_, ?_⟩
      ·rw [nums, e]
       simp [goOn, hy46]
      ·skip
       obtain ⟨z, hz⟩ := hm
       exact ⟨z, by rw [← hz]; simp⟩
    | some u =>
     rw [nums, h1 u hn]
     by_cases hm0 : 0 < m
     ·simp only [goOn, beq_self_eq_true, Bool.true_and, decide_eq_true_eq, if_pos hm0, List.drop_one, List.tail_cons]
      have hb' : m < (qSplitOn 46 r).length ∨ qNumsB (qSplitOn 46 r) = none := by
       rcases hbad with hb | hb
       ·left; simpa using hb
       ·right
        simp only [qNumsB, hn] at hb
        cases hr : qNumsB (qSplitOn 46 r) with
        | none => rfl
        | some b => rw [hr] at hb; simp at hb
      rcases (ih (acc ++ [u]) r).2 hb' with e | ⟨ns, y, q, e, hm⟩
      ·left; exact e
      ·right
       refine ⟨ns, y, q, e, ?_⟩
       skip
       exact hm.trans ⟨x ++ [46], by simp⟩
     ·right
      have hm00 : m = 0 := by omega
      subst hm00
      refine ⟨acc ++ [u], 46, r, ?_, ?_⟩
      ·simp [goOn]
      ·exact ⟨x, rfl⟩
def qReadB (s : ByteArray) : Option (SV × Nat) := (qSemB0 s.data.toList).map fun (ns, pre, mt) => (⟨ns.getD 0 0, ns.getD 1 0, ns.getD 2 0, ⟨pre.toArray⟩, ⟨mt.toArray⟩, s⟩, ns.length)
theorem qPart_other {c x : UInt8} {r : List UInt8} (h : x ≠ c) : part c (x :: r) = some ([], x :: r) := by rw [part, if_neg h]
theorem readV_eq (s : ByteArray) : readV s = qReadB s := by
 unfold readV qReadB qSemB0
 generalize bare0 s.data.toList = l
 rcases ha : qCutAt 43 l with ⟨l1, om⟩
 rcases hb : qCutAt 45 l1 with ⟨l2, op⟩
 simp only [hb]
 -- what is behind the numbers
 have key : ∃ tm tp, (om = none ∧ tm = [] ∨ ∃ m, om = some m ∧ tm = 43 :: m) ∧ (op = none ∧ tp = [] ∨ ∃ p, op = some p ∧ tp = 45 :: p) ∧ l = l2 ++ (tp ++ tm) ∧ (43 : UInt8) ∉ l2 ++ tp ∧ (45 : UInt8) ∉ l2 := by
  have h1 : ∃ tm, (om = none ∧ tm = [] ∨ ∃ m, om = some m ∧ tm = 43 :: m) ∧ l = l1 ++ tm ∧ (43 : UInt8) ∉ l1 := by
   cases om with
   | none => obtain ⟨h1, h2⟩ := qCutAt_none ha; subst h1; exact ⟨[], Or.inl ⟨rfl, rfl⟩, by simp, h2⟩
   | some m => obtain ⟨h1, h2⟩ := qCutAt_some ha; exact ⟨43 :: m, Or.inr ⟨m, rfl, rfl⟩, h1, h2⟩
  obtain ⟨tm, hm1, hm2, hm3⟩ := h1
  have h2 : ∃ tp, (op = none ∧ tp = [] ∨ ∃ p, op = some p ∧ tp = 45 :: p) ∧ l1 = l2 ++ tp ∧ (45 : UInt8) ∉ l2 := by
   cases op with
   | none => obtain ⟨h1, h2⟩ := qCutAt_none hb; subst h1; exact ⟨[], Or.inl ⟨rfl, rfl⟩, by simp, h2⟩
   | some p => obtain ⟨h1, h2⟩ := qCutAt_some hb; exact ⟨45 :: p, Or.inr ⟨p, rfl, rfl⟩, h1, h2⟩
  obtain ⟨tp, hp1, hp2, hp3⟩ := h2
  exact ⟨tm, tp, hm1, hp1, by rw [hm2, hp2]; simp, by rw [← hp2]; exact hm3, hp3⟩
 obtain ⟨tm, tp, htm, htp, rfl, h43, h45⟩ := key
 clear ha hb
 have nd : qNoDig (tp ++ tm) = true := by
  rcases htp with ⟨_, rfl⟩ | ⟨p, _, rfl⟩
  ·rcases htm with ⟨_, rfl⟩ | ⟨m, _, rfl⟩
   ·rfl
   ·simp [qNoDig]; decide
  ·simp [qNoDig]; decide
 have stm : qStops tm = true := by
  rcases htm with ⟨_, rfl⟩ | ⟨m, _, rfl⟩
  ·rfl
  ·simp [qStops]; decide
 have h43l : (43 : UInt8) ∉ l2 := fun h => h43 (List.mem_append_left _ h)
 have h43p : (43 : UInt8) ∉ tp := fun h => h43 (List.mem_append_right _ h)
 have bad : ∀ (x : UInt8) (r : List UInt8), x ≠ 45 → x ≠ 43 → (match part 45 (x :: r) with
  | none => none
  | some (pre, r1) => match part 43 r1 with
   | none => none
   | some (mt, r2) => if r2 = [] then some ((⟨([] : List Nat).getD 0 0, 0, 0, ⟨pre.toArray⟩, ⟨mt.toArray⟩, s⟩ : SV), 0) else none) = none := by
  intro x r h1 h2
  rw [qPart_other h1]; simp only; rw [qPart_other h2]; simp
 -- behind the dash
 have tailm : ∀ (ns : List Nat) (pre : List UInt8), (match part 43 tm with
   | none => none
   | some (mt, r2) => if r2 = [] then some ((⟨ns.getD 0 0, ns.getD 1 0, ns.getD 2 0, ⟨pre.toArray⟩, ⟨mt.toArray⟩, s⟩ : SV), ns.length) else none)
   = (qOptB om).map fun mt => (⟨ns.getD 0 0, ns.getD 1 0, ns.getD 2 0, ⟨pre.toArray⟩, ⟨mt.toArray⟩, s⟩, ns.length) := by
  intro ns pre
  rcases htm with ⟨rfl, rfl⟩ | ⟨m, rfl, rfl⟩
  ·simp [part, qOptB]
  ·by_cases hi : qIdentsB m = true
   ·have := qPart_some (c := 43) (p := m) (t := []) rfl hi
    rw [List.append_nil] at this
    rw [this]; simp [qOptB, hi]
   ·have := qPart_bad (c := 43) (p := m) (t := []) rfl (by simpa using hi)
    rw [List.append_nil] at this
    rcases this with e | ⟨q, x, r, e, _⟩
    ·rw [e]; simp [qOptB, hi]
    ·rw [e]; simp [qOptB, hi]
 have tailp : ∀ (ns : List Nat), (match part 45 (tp ++ tm) with
   | none => none
   | some (pre, r1) => match part 43 r1 with
    | none => none
    | some (mt, r2) => if r2 = [] then some ((⟨ns.getD 0 0, ns.getD 1 0, ns.getD 2 0, ⟨pre.toArray⟩, ⟨mt.toArray⟩, s⟩ : SV), ns.length) else none)
   = match qOptB om with
    | none => none
    | some mt => (qOptB op).map fun pre => (⟨ns.getD 0 0, ns.getD 1 0, ns.getD 2 0, ⟨pre.toArray⟩, ⟨mt.toArray⟩, s⟩, ns.length) := by
  intro ns
  rcases htp with ⟨rfl, rfl⟩ | ⟨p, rfl, rfl⟩
  ·have e : part 45 ([] ++ tm) = some ([], tm) := by
    rw [List.nil_append]
    rcases htm with ⟨_, rfl⟩ | ⟨m, _, rfl⟩
    ·rfl
    ·exact qPart_other (by decide)
   rw [e]
   simp only
   rw [tailm ns []]
   cases qOptB om <;> simp [qOptB]
  ·by_cases hi : qIdentsB p = true
   ·rw [List.cons_append, qPart_some stm hi]
    simp only
    rw [tailm ns p]
    cases qOptB om <;> simp [qOptB, hi]
   ·have ho : qOptB (some p) = none := by simp [qOptB, hi]
    rw [ho]
    have e0 : (match qOptB om with | none => none | some mt => (none : Option (List UInt8)).map fun pre => ((⟨ns.getD 0 0, ns.getD 1 0, ns.getD 2 0, ⟨pre.toArray⟩, ⟨mt.toArray⟩, s⟩ : SV), ns.length)) = none := by
     cases qOptB om <;> rfl
    rw [e0, List.cons_append]
    rcases qPart_bad stm (by simpa using hi : qIdentsB p = false) with e | ⟨q, x, r, e, hm⟩
    ·rw [e]
    ·rw [e]
     have hx : x ≠ 43 := by
      rintro rfl
      skip
      exact h43p (List.mem_cons_of_mem _ (hm.subset (by simp)))
     simp only [List.cons_append]
     rw [qPart_other hx]; simp
 obtain ⟨n1, n2⟩ := qNums_app (tp ++ tm) nd 3 [] l2
 by_cases hgood : (qSplitOn 46 l2).length ≤ 3 ∧ ∃ ns, qNumsB (qSplitOn 46 l2) = some ns
 ·obtain ⟨hlen, ns, hns⟩ := hgood
  rw [n1 ns hlen hns]
  simp only [List.nil_append]
  refine (tailp ns).trans ?_
  cases qOptB om with
  | none => rfl
  | some mt =>
   cases qOptB op with
   | none => rfl
   | some pre => simp only [if_neg (show ¬ 3 < (qSplitOn 46 l2).length by omega), hns]; rfl
 ·have hb' : 3 < (qSplitOn 46 l2).length ∨ qNumsB (qSplitOn 46 l2) = none := by
   by_cases h3 : (qSplitOn 46 l2).length ≤ 3
   ·right
    cases e : qNumsB (qSplitOn 46 l2) with
    | none => rfl
    | some ns => exact absurd ⟨h3, ns, e⟩ hgood
   ·left; omega
  have hr : (match qOptB om with
   | none => none
   | some mt => match qOptB op with
    | none => none
    | some pre => if 3 < (qSplitOn 46 l2).length then none else match qNumsB (qSplitOn 46 l2) with
     | none => none
     | some ns => some (ns, pre, mt)) = (none : Option (List Nat × List UInt8 × List UInt8)) := by
   cases qOptB om with
   | none => rfl
   | some mt => cases qOptB op with
    | none => rfl
    | some pre =>
     simp only
     split
     ·rfl
     ·rcases hb' with h | h
      ·omega
      ·rw [h]
  rw [hr]
  rcases n2 hb' with e | ⟨ns, y, r, e, hm⟩
  ·rw [e]; rfl
  ·rw [e]
   skip
   have hy1 : y ≠ 45 := by rintro rfl; exact h45 (hm.subset (by simp))
   have hy2 : y ≠ 43 := by rintro rfl; exact h43l (hm.subset (by simp))
   simp only [List.cons_append]
   rw [qPart_other hy1]; simp only
   rw [qPart_other hy2]; simp
end Go.Proofs.YtgoeiflddikihaaGreatDoor.Ver
end
section
namespace Go.Proofs.YtgoeiflddikihaaGreatDoor.Ver
open Go.RowKit Go.Proofs.YtgoeiflddikihaaGreatDoor.Dig Go.Proofs.YtgoeiflddikihaaGreatDoorW.PrintWords
theorem below_trans {a b c : World} (h : Below a.heap.size a b) (k : Below b.heap.size b c) : Below a.heap.size a c := h.trans (k.mono h.size)
theorem nums_len : ∀ (m : Nat) (acc ns : List Nat) (l r : List UInt8), nums m acc l = some (ns, r) → 1 ≤ ns.length
  | 0, _, _, _, _, h => by simp [nums] at h
  | m + 1, acc, ns, l, r, h => by
    rw [nums] at h
    split at h
    · cases h
    · split at h
      · exact nums_len m _ _ _ _ h
      · simp at h; rw [← h.1]; simp
theorem readV_pos {s : ByteArray} {v : SV} {k : Nat} (h : readV s = some (v, k)) : 1 ≤ k := by
  unfold readV at h
  split at h
  · cases h
  · rename_i ns r hn
    split at h
    · cases h
    · split at h
      · cases h
      · split at h
        · injection h with h; injection h with _ h2; rw [← h2]; exact nums_len _ _ _ _ _ hn
        · cases h
def newV (s : ByteArray) : Unp := match readV s with
  | none => .plain s
  | some (v, _) => .sem v
def NewEnd (s : ByteArray) (w : World) (e : Ending) (w' : World) : Prop :=
  Below w.heap.size w w' ∧ match readV s with
    | none => ∃ a, e = .returned (.tuple #[.agg zSV, .iface 260 (.pointer (some a))])
    | some (v, _) => e = .returned (.tuple #[.agg v.cells, .nilIface])
theorem new_any' (s : ByteArray) (hs : s.size ≤ 2147483647) (w : World) (hv : Vars w) : Calls Tryz.prog 129 #[.string s] w (NewEnd s w) := by
  have HR := Lib.hid (fun W hb => read_any s hs W (Vars.below (w := w) hv hb))
  have HB := Aside0.mk (Below.refl w.heap.size w)
  clear hv
  cases hq : readV s with
  | none =>
    have HQ := Lib.hid hq
    clear hq
    go_enter Tryz.func129, Tryz.ntmps129
    go_wp2_with (first
      | (go_at_call 143; ((with_reducible refine (HR.out _ (by repeat (first | exact HB.out | apply below_alloc | apply pw_below_drewN))).mono ?_); rintro e w5 ⟨hb, hm⟩; rw [HQ.out] at hm; obtain ⟨a, rfl⟩ := hm; refine Hid.out ?_)))
    have hk := blk_below (alloc_at w (.cells zSV 197)) hb
    have HB5 := Aside0.mk (below_trans (by repeat (first | exact HB.out | apply below_alloc | apply pw_below_drewN)) hb)
    have hk2 := blk_alloc hk (.cells zSV 197)
    have r0 := blk_cell hk2 0
    have t0 := blk_frozen hk2 0
    have r1 := blk_cell hk2 1
    have t1 := blk_frozen hk2 1
    have r2 := blk_cell hk2 2
    have t2 := blk_frozen hk2 2
    have r3 := blk_cell hk2 3
    have t3 := blk_frozen hk2 3
    have r4 := blk_cell hk2 4
    have t4 := blk_frozen hk2 4
    have r5 := blk_cell hk2 5
    have t5 := blk_frozen hk2 5
    clear hk hk2 hb
    refine Lib.hid ?_
    go_wp2_with fail
    refine bodyPost_ret (v := .tuple #[.agg zSV, .iface 260 (.pointer (some a))]) (by simp [results, Tryz.results129, go_sem, *]) rfl ⟨?_, by rw [HQ.out]; exact ⟨a, rfl⟩⟩
    exact ((((((below_alloc HB5.out _).setCell (Nat.le_refl _) _).setCell (Nat.le_refl _) _).setCell (Nat.le_refl _) _).setCell (Nat.le_refl _) _).setCell (Nat.le_refl _) _).setCell (Nat.le_refl _) _
  | some p =>
    obtain ⟨v, k⟩ := p
    have hk0 := readV_pos hq
    have HQ := Lib.hid hq
    clear hq
    go_enter Tryz.func129, Tryz.ntmps129
    go_wp2_with (first
      | (go_at_call 143; ((with_reducible refine (HR.out _ (by repeat (first | exact HB.out | apply below_alloc | apply pw_below_drewN))).mono ?_); rintro e w5 ⟨hb, hm⟩; rw [HQ.out] at hm; obtain rfl := hm; refine Hid.out ?_)))
    obtain ⟨va, vb, vc, vp, vm, vo⟩ := v
    have hk := blk_below (alloc_at w (.cells zSV 197)) hb
    have HB5 := Aside0.mk (below_trans (by repeat (first | exact HB.out | apply below_alloc | apply pw_below_drewN)) hb)
    have hk2 := blk_alloc hk (.cells #[.int .u64 va, .int .u64 vb, .int .u64 vc, .string vp, .string vm, .string vo] 197)
    have r0 := blk_cell hk2 0
    have t0 := blk_frozen hk2 0
    have r1 := blk_cell hk2 1
    have t1 := blk_frozen hk2 1
    have r2 := blk_cell hk2 2
    have t2 := blk_frozen hk2 2
    have r3 := blk_cell hk2 3
    have t3 := blk_frozen hk2 3
    have r4 := blk_cell hk2 4
    have t4 := blk_frozen hk2 4
    have r5 := blk_cell hk2 5
    have t5 := blk_frozen hk2 5
    have q0 : ((k : Int) == 0) = false := by rw [beq_eq_false_iff_ne]; omega
    clear hk hk2 hb hk0
    refine Lib.hid ?_
    dsimp only [SV.cells]
    go_wp2_with fail
    refine bodyPost_ret (v := .tuple #[.agg #[.int .u64 va, .int .u64 vb, .int .u64 vc, .string vp, .string vm, .string vo], .nilIface]) (by simp [results, Tryz.results129, go_sem, *]) rfl ⟨?_, by rw [HQ.out]; rfl⟩
    exact ((((((below_alloc HB5.out _).setCell (Nat.le_refl _) _).setCell (Nat.le_refl _) _).setCell (Nat.le_refl _) _).setCell (Nat.le_refl _) _).setCell (Nat.le_refl _) _).setCell (Nat.le_refl _) _
theorem newV_any (s : ByteArray) (hs : s.size ≤ 2147483647) (w : World) (hv : Vars w) : Calls Tryz.prog 122 #[.string s] w fun e w' => e = .returned (newV s).val ∧ Below w.heap.size w w' := by
  have HR := Lib.hid (fun W hb => new_any' s hs W (Vars.below (w := w) hv hb))
  have HB := Aside0.mk (Below.refl w.heap.size w)
  clear hv
  cases hq : readV s with
  | none =>
    have hN : newV s = .plain s := by unfold newV; rw [hq]
    rw [hN]
    have HQ := Lib.hid hq
    clear hq hN
    go_enter Tryz.func122, Tryz.ntmps122
    go_wp2_with (first
      | (go_at_call 129; ((with_reducible refine (HR.out _ (by repeat (first | exact HB.out | apply below_alloc | apply pw_below_drewN))).mono ?_); rintro e w5 ⟨hb, hm⟩; rw [HQ.out] at hm; obtain ⟨a, rfl⟩ := hm; have HB5 := Aside0.mk (below_trans (by repeat (first | exact HB.out | apply below_alloc | apply pw_below_drewN)) hb); clear hb)))
    go_ret
    exact ⟨rfl, by repeat (first | exact HB5.out | apply below_alloc | apply pw_below_drewN)⟩
  | some p =>
    obtain ⟨v, k⟩ := p
    have hN : newV s = .sem v := by unfold newV; rw [hq]
    rw [hN]
    have HQ := Lib.hid hq
    clear hq hN
    go_enter Tryz.func122, Tryz.ntmps122
    go_wp2_with (first
      | (go_at_call 129; ((with_reducible refine (HR.out _ (by repeat (first | exact HB.out | apply below_alloc | apply pw_below_drewN))).mono ?_); rintro e w5 ⟨hb, hm⟩; rw [HQ.out] at hm; obtain rfl := hm; have HB5 := Aside0.mk (below_trans (by repeat (first | exact HB.out | apply below_alloc | apply pw_below_drewN)) hb); clear hb; dsimp only [SV.cells])))
    go_ret
    exact ⟨rfl, by repeat (first | exact HB5.out | apply below_alloc | apply pw_below_drewN)⟩
def unpV (k : Int) (t : ByteArray) : Option Unp := if k = 1 then some (.branch t false) else if k = 2 then some (.branch t true) else if k = 3 then some (newV t) else none
def verV (k : Int) (t r : ByteArray) : Vers := match unpV k t with
  | none => .rev t
  | some u => if r = ⟨#[]⟩ then .un u else .pair u r
def unpVal : Option Unp → Value
  | none => .nilIface
  | some u => u.val
theorem unp_any (k : Int) (t r : ByteArray) (ht : t.size ≤ 2147483647) (w : World) (hv : Vars w) : Calls Tryz.prog 98 #[.agg #[.int .i64 k, .string t, .string r]] w fun e w' => e = .returned (unpVal (unpV k t)) ∧ Below w.heap.size w w' := by
  have HR := Lib.hid (fun W hb => newV_any t ht W (Vars.below (w := w) hv hb))
  have HB := Aside0.mk (Below.refl w.heap.size w)
  clear hv
  by_cases h1 : k = 1
  · subst h1
    go_enter Tryz.func98, Tryz.ntmps98
    go_wp2
    go_ret
    exact ⟨rfl, by repeat (first | exact HB.out | apply below_alloc | apply pw_below_drewN)⟩
  by_cases h2 : k = 2
  · subst h2
    go_enter Tryz.func98, Tryz.ntmps98
    go_wp2
    go_ret
    exact ⟨rfl, by repeat (first | exact HB.out | apply below_alloc | apply pw_below_drewN)⟩
  by_cases h3 : k = 3
  · subst h3
    go_enter Tryz.func98, Tryz.ntmps98
    go_wp2_with (first
      | (go_at_call 122; ((with_reducible refine (HR.out _ (by repeat (first | exact HB.out | apply below_alloc | apply pw_below_drewN))).mono ?_); rintro e w5 ⟨rfl, hb⟩; have HB5 := Aside0.mk (below_trans (by repeat (first | exact HB.out | apply below_alloc | apply pw_below_drewN)) hb); clear hb)))
    go_ret
    exact ⟨rfl, by repeat (first | exact HB5.out | apply below_alloc | apply pw_below_drewN)⟩
  · have q1 : (k == 1) = false := beq_eq_false_iff_ne.2 h1
    have q2 : (k == 2) = false := beq_eq_false_iff_ne.2 h2
    have q3 : (k == 3) = false := beq_eq_false_iff_ne.2 h3
    have hN : unpV k t = none := by unfold unpV; rw [if_neg h1, if_neg h2, if_neg h3]
    rw [hN]
    clear h1 h2 h3 hN
    go_enter Tryz.func98, Tryz.ntmps98
    go_wp2
    go_ret
    exact ⟨rfl, by repeat (first | exact HB.out | apply below_alloc | apply pw_below_drewN)⟩
theorem size_pos {r : ByteArray} (h : r ≠ ⟨#[]⟩) : 0 < r.size := by
  rcases Nat.eq_zero_or_pos r.size with h0 | h0
  · exact absurd (ByteArray.ext (Array.ext' (list_nil h0))) h
  · exact h0
theorem ver_any (k : Int) (t r : ByteArray) (ht : t.size ≤ 2147483647) (w : World) (hv : Vars w) : Calls Tryz.prog 66 #[.agg #[.int .i64 k, .string t, .string r]] w fun e w' => e = .returned (verV k t r).val ∧ Below w.heap.size w w' := by
  have HR := Lib.hid (fun W hb => unp_any k t r ht W (Vars.below (w := w) hv hb))
  have HB := Aside0.mk (Below.refl w.heap.size w)
  clear hv
  have mb := m_branch_Pair
  have mp := m_plain_Pair
  have ms := m_sem_Pair
  cases hq : unpV k t with
  | none =>
    have hN : verV k t r = .rev t := by unfold verV; rw [hq]
    rw [hN]
    have HQ := Lib.hid hq
    clear hq hN
    go_enter Tryz.func66, Tryz.ntmps66
    go_wp2_with (first
      | (go_at_call 98; ((with_reducible refine (HR.out _ (by repeat (first | exact HB.out | apply below_alloc | apply pw_below_drewN))).mono ?_); rintro e w5 ⟨rfl, hb⟩; refine Hid.out ?_)))
    have hk := blk_below (alloc_at w (.cells #[.int .i64 k, .string t, .string r] 27)) hb
    have HB5 := Aside0.mk (below_trans (by repeat (first | exact HB.out | apply below_alloc | apply pw_below_drewN)) hb)
    have r0 := blk_cell hk 0
    have r1 := blk_cell hk 1
    have r2 := blk_cell hk 2
    clear hk hb
    rw [HQ.out]
    dsimp only [unpVal, Unp.val, Unp.tid, Unp.inner, SV.cells]
    refine Lib.hid ?_
    go_wp2
    go_ret
    exact ⟨rfl, by repeat (first | exact HB5.out | apply below_alloc | apply pw_below_drewN)⟩
  | some u =>
    by_cases hr : r = ⟨#[]⟩
    · have hN : verV k t r = .un u := by unfold verV; rw [hq]; simp only; rw [if_pos hr]
      rw [hN]
      have hem : r.toList.isEmpty = true := isEmpty_true (by rw [hr]; rfl)
      have HQ := Lib.hid hq
      clear hq hN hr
      rcases u with ⟨n, d⟩ | n | v
      · go_enter Tryz.func66, Tryz.ntmps66
        go_wp2_with (first
          | (go_at_call 98; ((with_reducible refine (HR.out _ (by repeat (first | exact HB.out | apply below_alloc | apply pw_below_drewN))).mono ?_); rintro e w5 ⟨rfl, hb⟩; refine Hid.out ?_)))
        have hk := blk_below (alloc_at w (.cells #[.int .i64 k, .string t, .string r] 27)) hb
        have HB5 := Aside0.mk (below_trans (by repeat (first | exact HB.out | apply below_alloc | apply pw_below_drewN)) hb)
        have r0 := blk_cell hk 0
        have r1 := blk_cell hk 1
        have r2 := blk_cell hk 2
        clear hk hb
        rw [HQ.out]
        dsimp only [unpVal, Unp.val, Unp.tid, Unp.inner, SV.cells]
        refine Lib.hid ?_
        go_wp2
        go_ret
        exact ⟨rfl, by repeat (first | exact HB5.out | apply below_alloc | apply pw_below_drewN)⟩
      · go_enter Tryz.func66, Tryz.ntmps66
        go_wp2_with (first
          | (go_at_call 98; ((with_reducible refine (HR.out _ (by repeat (first | exact HB.out | apply below_alloc | apply pw_below_drewN))).mono ?_); rintro e w5 ⟨rfl, hb⟩; refine Hid.out ?_)))
        have hk := blk_below (alloc_at w (.cells #[.int .i64 k, .string t, .string r] 27)) hb
        have HB5 := Aside0.mk (below_trans (by repeat (first | exact HB.out | apply below_alloc | apply pw_below_drewN)) hb)
        have r0 := blk_cell hk 0
        have r1 := blk_cell hk 1
        have r2 := blk_cell hk 2
        clear hk hb
        rw [HQ.out]
        dsimp only [unpVal, Unp.val, Unp.tid, Unp.inner, SV.cells]
        refine Lib.hid ?_
        go_wp2
        go_ret
        exact ⟨rfl, by repeat (first | exact HB5.out | apply below_alloc | apply pw_below_drewN)⟩
      · go_enter Tryz.func66, Tryz.ntmps66
        go_wp2_with (first
          | (go_at_call 98; ((with_reducible refine (HR.out _ (by repeat (first | exact HB.out | apply below_alloc | apply pw_below_drewN))).mono ?_); rintro e w5 ⟨rfl, hb⟩; refine Hid.out ?_)))
        have hk := blk_below (alloc_at w (.cells #[.int .i64 k, .string t, .string r] 27)) hb
        have HB5 := Aside0.mk (below_trans (by repeat (first | exact HB.out | apply below_alloc | apply pw_below_drewN)) hb)
        have r0 := blk_cell hk 0
        have r1 := blk_cell hk 1
        have r2 := blk_cell hk 2
        clear hk hb
        rw [HQ.out]
        dsimp only [unpVal, Unp.val, Unp.tid, Unp.inner, SV.cells]
        refine Lib.hid ?_
        go_wp2
        go_ret
        exact ⟨rfl, by repeat (first | exact HB5.out | apply below_alloc | apply pw_below_drewN)⟩
    · have hN : verV k t r = .pair u r := by unfold verV; rw [hq]; simp only; rw [if_neg hr]
      rw [hN]
      have hem : r.toList.isEmpty = false := isEmpty_false (size_pos hr)
      have HQ := Lib.hid hq
      clear hq hN hr
      rcases u with ⟨n, d⟩ | n | v
      · go_enter Tryz.func66, Tryz.ntmps66
        go_wp2_with (first
          | (go_at_call 98; ((with_reducible refine (HR.out _ (by repeat (first | exact HB.out | apply below_alloc | apply pw_below_drewN))).mono ?_); rintro e w5 ⟨rfl, hb⟩; refine Hid.out ?_)))
        have hk := blk_below (alloc_at w (.cells #[.int .i64 k, .string t, .string r] 27)) hb
        have HB5 := Aside0.mk (below_trans (by repeat (first | exact HB.out | apply below_alloc | apply pw_below_drewN)) hb)
        have r0 := blk_cell hk 0
        have r1 := blk_cell hk 1
        have r2 := blk_cell hk 2
        clear hk hb
        rw [HQ.out]
        dsimp only [unpVal, Unp.val, Unp.tid, Unp.inner, SV.cells]
        refine Lib.hid ?_
        go_wp2
        go_ret
        exact ⟨rfl, by repeat (first | exact HB5.out | apply below_alloc | apply pw_below_drewN)⟩
      · go_enter Tryz.func66, Tryz.ntmps66
        go_wp2_with (first
          | (go_at_call 98; ((with_reducible refine (HR.out _ (by repeat (first | exact HB.out | apply below_alloc | apply pw_below_drewN))).mono ?_); rintro e w5 ⟨rfl, hb⟩; refine Hid.out ?_)))
        have hk := blk_below (alloc_at w (.cells #[.int .i64 k, .string t, .string r] 27)) hb
        have HB5 := Aside0.mk (below_trans (by repeat (first | exact HB.out | apply below_alloc | apply pw_below_drewN)) hb)
        have r0 := blk_cell hk 0
        have r1 := blk_cell hk 1
        have r2 := blk_cell hk 2
        clear hk hb
        rw [HQ.out]
        dsimp only [unpVal, Unp.val, Unp.tid, Unp.inner, SV.cells]
        refine Lib.hid ?_
        go_wp2
        go_ret
        exact ⟨rfl, by repeat (first | exact HB5.out | apply below_alloc | apply pw_below_drewN)⟩
      · go_enter Tryz.func66, Tryz.ntmps66
        go_wp2_with (first
          | (go_at_call 98; ((with_reducible refine (HR.out _ (by repeat (first | exact HB.out | apply below_alloc | apply pw_below_drewN))).mono ?_); rintro e w5 ⟨rfl, hb⟩; refine Hid.out ?_)))
        have hk := blk_below (alloc_at w (.cells #[.int .i64 k, .string t, .string r] 27)) hb
        have HB5 := Aside0.mk (below_trans (by repeat (first | exact HB.out | apply below_alloc | apply pw_below_drewN)) hb)
        have r0 := blk_cell hk 0
        have r1 := blk_cell hk 1
        have r2 := blk_cell hk 2
        clear hk hb
        rw [HQ.out]
        dsimp only [unpVal, Unp.val, Unp.tid, Unp.inner, SV.cells]
        refine Lib.hid ?_
        go_wp2
        go_ret
        exact ⟨rfl, by repeat (first | exact HB5.out | apply below_alloc | apply pw_below_drewN)⟩
end Go.Proofs.YtgoeiflddikihaaGreatDoor.Ver
end
section
namespace Go.Proofs.YtgoeiflddikihaaGreatDoor.Ver
open Go.RowKit Go.Proofs.YtgoeiflddikihaaGreatDoorW.PrintWords Go.Proofs.YtgoeiflddikihaaGreatDoor.Ord
theorem ba_eq {a b : ByteArray} (h : a.data.toList = b.data.toList) : a = b := ByteArray.ext (Array.ext' h)
theorem len_list (s : ByteArray) : s.data.toList.length = s.size := Array.length_toList
theorem extract_pre (s : ByteArray) (i : Nat) : (s.extract 0 i).data.toList = s.data.toList.take i := by
  rw [ByteArray.data_extract, Array.toList_extract]; simp [List.extract_eq_take_drop]
theorem extract_suf (s : ByteArray) (i : Nat) : (s.extract i s.size).data.toList = s.data.toList.drop i := by
  rw [ByteArray.data_extract, Array.toList_extract]
  simp only [List.extract_eq_take_drop]
  rw [List.take_of_length_le (by rw [List.length_drop, len_list]; exact Nat.le_refl _)]
def firstB (s : ByteArray) : ByteArray := ⟨(firstI s.data.toList).toArray⟩
def restB (s : ByteArray) : ByteArray := ⟨(restI s.data.toList).toArray⟩
def bareB (s : ByteArray) : ByteArray := ⟨(bareZ s.data.toList).toArray⟩
theorem firstI_at {l : List UInt8} {i : Nat} (hi : i < l.length) (h0 : ∀ c ∈ l.take i, c ≠ 46) (hc : l[i] = 46) : firstI l = l.take i ∧ restI l = l.drop (i + 1) := by
  have e : l = l.take i ++ 46 :: l.drop (i + 1) := by rw [← hc, ← List.drop_eq_getElem_cons hi, List.take_append_drop]
  have h1 : ∀ c ∈ l.take i, (c != 46) = true := fun c h => by rw [bne_iff_ne]; exact h0 c h
  refine ⟨?_, ?_⟩
  · unfold firstI
    conv => lhs; rw [e]
    rw [List.takeWhile_append_of_pos h1]; simp
  · unfold restI
    conv => lhs; rw [e]
    rw [List.dropWhile_append_of_pos h1]; simp
theorem firstI_all {l : List UInt8} (h0 : ∀ c ∈ l, c ≠ 46) : firstI l = l ∧ restI l = [] := by
  have h1 : ∀ c ∈ l, (c != 46) = true := fun c h => by rw [bne_iff_ne]; exact h0 c h
  refine ⟨?_, ?_⟩
  · unfold firstI
    have := List.takeWhile_append_of_pos (l₂ := []) h1
    simpa using this
  · unfold restI
    have := List.dropWhile_append_of_pos (l₂ := []) h1
    rw [List.append_nil] at this
    rw [this]; rfl
theorem take_more {l : List UInt8} {i : Nat} (hi : i < l.length) (h0 : ∀ c ∈ l.take i, c ≠ 46) (hc : l[i] ≠ 46) : ∀ c ∈ l.take (i + 1), c ≠ 46 := by
  intro c h
  rw [List.take_succ_eq_append_getElem hi, List.mem_append, List.mem_singleton] at h
  rcases h with h | h
  · exact h0 c h
  · rw [h]; exact hc
theorem byte_int {c : UInt8} {n : Nat} (hn : n < 256) : ((c.toNat : Int) = (n : Int)) ↔ c = UInt8.ofNat n := by
  constructor
  · intro h
    apply UInt8.toNat_inj.1
    rw [UInt8.toNat_ofNat']; omega
  · rintro rfl
    rw [UInt8.toNat_ofNat']; omega
theorem first_tells (s : ByteArray) (hn : s.size ≤ 140737488351232) (d : Nat) : ∀ (k i : Nat), i ≤ s.size → s.size - i = d → d < k → (∀ c ∈ s.data.toList.take i, c ≠ 46) →
    Pfirst.semver_first.l0 k s (i : Int) = some (firstB s, restB s) := by
  induction d with
  | zero =>
    intro k i hi hd hk h0
    cases k with
    | zero => omega
    | succ k =>
      rw [Pfirst.semver_first.l0, if_neg (by omega)]
      rw [List.take_of_length_le (by rw [len_list]; omega)] at h0
      obtain ⟨e1, e2⟩ := firstI_all h0
      unfold firstB restB
      rw [e1, e2]
  | succ d ih =>
    intro k i hi hd hk h0
    have hlt : i < s.size := by omega
    have hll : i < s.data.toList.length := by rw [len_list]; exact hlt
    have hget : s.data.toList[i] = s[i] := rfl
    cases k with
    | zero => omega
    | succ k =>
      have w1 : wrap64 ((i : Int) + 1) = ((i + 1 : Nat) : Int) := by rw [wrap_in (by omega) (by omega)]; omega
      rw [Pfirst.semver_first.l0, if_pos (by omega), if_pos (by omega), bt_nat s i hlt, w1]
      by_cases hc : s[i] = 46
      · rw [if_pos (by rw [hc]; rfl), if_pos (by omega), if_pos (by omega), if_pos (by omega)]
        obtain ⟨e1, e2⟩ := firstI_at hll h0 (hget.trans hc)
        unfold firstB restB
        rw [e1, e2]
        congr 2
        · apply ba_eq; rw [Int.toNat_natCast, extract_pre]
        · apply ba_eq; rw [Int.toNat_natCast, extract_suf]
      · have hne : ¬ ((s[i].toNat : Int) = 46) := fun h => hc ((byte_int (n := 46) (by omega)).1 h)
        rw [if_neg hne]
        exact ih k (i + 1) (by omega) (by omega) (by omega) (take_more hll h0 (fun h => hc (hget.symm.trans h)))
theorem first_any (s : ByteArray) (hn : s.size ≤ 140737488351232) (w : World) :
    Calls Tryz.prog 210 #[.string s] w fun e w' => e = .returned (.tuple #[.string (firstB s), .string (restB s)]) ∧ ∃ n, w' = w.drewN n :=
  (Pfirst.semver_first.calls (s.size + 1) s _ _ w (first_tells s hn s.size (s.size + 1) 0 (by omega) (by omega) (by omega) (by simp))).mono fun _ _ ⟨h, hd⟩ => ⟨h, hd.out⟩
theorem number_tells (s : ByteArray) (hn : s.size ≤ 140737488351232) (d : Nat) : ∀ (k i : Nat), i ≤ s.size → s.size - i = d → d < k →
    Pcompare.semver_number.l0 k s (i : Int) = some (!s.data.toList.isEmpty && (s.data.toList.drop i).all Ord.isDig) := by
  induction d with
  | zero =>
    intro k i hi hd hk
    cases k with
    | zero => omega
    | succ k =>
      rw [Pcompare.semver_number.l0, if_neg (by omega), List.drop_eq_nil_of_le (by rw [len_list]; omega), ByteArray.toList_eq]
      cases s.data.toList <;> rfl
  | succ d ih =>
    intro k i hi hd hk
    have hlt : i < s.size := by omega
    have hne : s.data.toList.isEmpty = false := by
      have := drop_at s i hlt
      cases h : s.data.toList with
      | nil => rw [h] at this; simp at this
      | cons => rfl
    cases k with
    | zero => omega
    | succ k =>
      have w1 : wrap64 ((i : Int) + 1) = ((i + 1 : Nat) : Int) := by rw [wrap_in (by omega) (by omega)]; omega
      rw [Pcompare.semver_number.l0, if_pos (by omega), if_pos (by omega), bt_nat s i hlt, w1, drop_at s i hlt, List.all_cons]
      have e1 := ih k (i + 1) (by omega) (by omega) (by omega)
      unfold Ord.isDig at *
      by_cases h1 : s[i].toNat < 48
      · rw [if_pos (by omega), decide_eq_false (by omega)]; simp
      · rw [if_neg (by omega)]
        by_cases h2 : s[i].toNat ≤ 57
        · rw [if_neg (by omega), e1, decide_eq_true (by omega : 48 ≤ s[i].toNat), decide_eq_true h2]; simp
        · rw [if_pos (by omega), decide_eq_false h2]; simp
theorem number_any (s : ByteArray) (hn : s.size ≤ 140737488351232) (w : World) :
    Calls Tryz.prog 212 #[.string s] w fun e w' => e = .returned (.bool (idNum s.data.toList)) ∧ ∃ n, w' = w.drewN n :=
  (Pcompare.semver_number.calls (s.size + 1) s _ w (number_tells s hn s.size (s.size + 1) 0 (by omega) (by omega) (by omega))).mono fun _ _ ⟨h, hd⟩ => ⟨h, hd.out⟩
theorem bare_tells (d : Nat) : ∀ (s : ByteArray) (k : Nat), s.size = d → d < k → Pcompare.semver_bare.l0 k s = some (bareB s) := by
  induction d with
  | zero =>
    intro s k hd hk
    cases k with
    | zero => omega
    | succ k =>
      rw [Pcompare.semver_bare.l0, if_neg (by omega)]
      congr 1
      apply ba_eq
      have : s.data.toList = [] := List.length_eq_zero_iff.1 (by rw [len_list]; exact hd)
      unfold bareB; rw [this]; rfl
  | succ d ih =>
    intro s k hd hk
    cases k with
    | zero => omega
    | succ k =>
      have e0 := drop_at s 0 (by omega)
      rw [List.drop_zero] at e0
      rw [Pcompare.semver_bare.l0]
      by_cases h1 : 1 < s.size
      · have e1 := drop_at s 1 h1
        rw [if_pos (by omega), if_pos (by omega), show ((0 : Int)) = ((0 : Nat) : Int) from rfl, bt_nat s 0 (by omega)]
        by_cases hc : s[0] = 48
        · rw [if_pos (by rw [hc]; rfl), if_pos (by omega), ih (s.extract 1 s.size) k (by rw [ByteArray.size_extract]; omega) (by omega)]
          congr 1
          apply ba_eq
          unfold bareB
          show bareZ (s.extract 1 s.size).data.toList = bareZ s.data.toList
          rw [extract_suf]
          conv => rhs; rw [e0, e1, hc]
          rw [e1]
          rfl
        · have hne : ¬ ((s[0].toNat : Int) = 48) := fun h => hc ((byte_int (n := 48) (by omega)).1 h)
          rw [if_neg hne]
          congr 1
          apply ba_eq
          unfold bareB
          show _ = bareZ s.data.toList
          rw [e0, e1]
          simp only [bareZ]
          rw [if_neg hc]
      · rw [if_neg (by omega)]
        congr 1
        apply ba_eq
        unfold bareB
        show _ = bareZ s.data.toList
        rw [e0, List.drop_eq_nil_of_le (by rw [len_list]; omega)]
        rfl
theorem bare_any (s : ByteArray) (w : World) :
    Calls Tryz.prog 213 #[.string s] w fun e w' => e = .returned (.string (bareB s)) ∧ ∃ n, w' = w.drewN n :=
  (Pcompare.semver_bare.calls (s.size + 1) s _ w (bare_tells s.size s (s.size + 1) rfl (by omega))).mono fun _ _ ⟨h, hd⟩ => ⟨h, hd.out⟩
end Go.Proofs.YtgoeiflddikihaaGreatDoor.Ver
end
