/- Merged by program out of: SemE, SemO, VFmt, VCp, Sort, ConA, PlainM. -/
import Derived.Test.YtgoeiflddikihaaGreatDoorCsoM6
import Derived.Test.YtgoeiflddikihaaGreatDoorCsoM7
import Derived.Test.YtgoeiflddikihaaGreatDoorCsoM8
import Derived.Lib.ItoaMem
import Derived.WalkKit
import Derived.Sort.AssemblyPlain
import Derived.Sort.Row
import Derived.LoopTactic
import Derived.Lib.BufferOwn
import Derived.Maps.AppendAt
import Derived.WalkLawsBesides
section
namespace Go.Proofs.YtgoeiflddikihaaGreatDoor.Ver
open Go.RowKit Go.Proofs.YtgoeiflddikihaaGreatDoor.PFnVersion Go.Proofs.YtgoeiflddikihaaGreatDoorW.PrintWords
abbrev mkB (l : List UInt8) : ByteArray := ⟨l.toArray⟩
theorem mkB_of {s : ByteArray} {l : List UInt8} (h : s.data.toList = l) : s = mkB l := by
  apply ByteArray.ext; show s.data = l.toArray; rw [← h, Array.toArray_toList]
theorem bt_same (s : ByteArray) (i : Nat) (h : i < s.size) (c : UInt8) : (bt s (i : Int) = (c.toNat : Int)) ↔ s[i] = c := by
  rw [bt_nat s i h]
  constructor
  · intro e; exact UInt8.toNat_inj.1 (by omega)
  · rintro e; rw [e]
def cutV (s : ByteArray) (pre : List UInt8) (q : List UInt8 × Option (List UInt8)) : ByteArray × ByteArray × Bool := match q.2 with
  | none => (s, ⟨#[]⟩, false)
  | some b => (mkB (pre ++ q.1), mkB b, true)
theorem cut_tells (s : ByteArray) (hn : s.size ≤ 140737488351232) (c : UInt8) (d : Nat) : ∀ i, i ≤ s.size → s.size - i = d → ∀ k, d < k →
    spec_verCut.l0 k s (c.toNat : Int) (i : Int) = some (cutV s (s.data.toList.take i) (qCutAt c (s.data.toList.drop i))) := by
  induction d with
  | zero =>
    intro i hi hd k hk
    obtain ⟨k, rfl⟩ : ∃ j, k = j + 1 := ⟨k - 1, by omega⟩
    rw [spec_verCut.l0, if_neg (by omega), List.drop_eq_nil_of_le (by rw [Array.length_toList]; show s.size ≤ i; omega)]
    rfl
  | succ d ih =>
    intro i hi hd k hk
    obtain ⟨k, rfl⟩ : ∃ j, k = j + 1 := ⟨k - 1, by omega⟩
    have hlt : i < s.size := by omega
    have w1 : wrap64 ((i : Int) + 1) = ((i + 1 : Nat) : Int) := by rw [wrap_in (by omega) (by omega)]; omega
    rw [drop_at s i hlt, spec_verCut.l0, if_pos (by omega), if_pos (by omega), w1]
    by_cases hc : s[i] = c
    · rw [if_pos ((bt_same s i hlt c).2 hc), if_pos (by omega), if_pos (by omega), if_pos (by omega), qCutAt, if_pos hc]
      have e1 : s.extract 0 ((i : Int)).toNat = mkB (s.data.toList.take i ++ []) := mkB_of (by rw [Int.toNat_natCast, take_data, List.append_nil])
      have e2 : s.extract (((i + 1 : Nat) : Int)).toNat s.size = mkB (s.data.toList.drop (i + 1)) := mkB_of (by rw [Int.toNat_natCast, drop_data])
      rw [e1, e2]; rfl
    · rw [if_neg (fun h => hc ((bt_same s i hlt c).1 h)), ih (i + 1) (by omega) (by omega) k (by omega), qCutAt, if_neg hc]
      have e : s.data.toList.take (i + 1) = s.data.toList.take i ++ [s[i]] := by
        rw [List.take_succ_eq_append_getElem (by rw [Array.length_toList]; exact hlt)]; rfl
      unfold cutV
      rw [e]
      cases (qCutAt c (s.data.toList.drop (i + 1))).2 <;> simp
def splitV (pre : List UInt8) (q : List (List UInt8)) : List ByteArray := match q with
  | h :: t => mkB (pre ++ h) :: t.map mkB
  | [] => []
theorem split_tells (s : ByteArray) (hn : s.size ≤ 3000000000) (c : UInt8) (d : Nat) : ∀ (i f : Nat) (acc : List ByteArray), f ≤ i → i ≤ s.size → s.size - i = d → acc.length + d < 8000000000000 → ∀ k, d + 1 < k →
    spec_verSplit.l0 k s (c.toNat : Int) acc (f : Int) (i : Int) = some (acc ++ splitV ((s.data.toList.take i).drop f) (qSplitOn c (s.data.toList.drop i))) := by
  have ex : ∀ f i : Nat, s.extract ((f : Int)).toNat ((i : Int)).toNat = mkB ((s.data.toList.take i).drop f) := fun f i => mkB_of (by
    rw [Int.toNat_natCast, Int.toNat_natCast, ByteArray.data_extract, Array.toList_extract]
    simp only [List.extract_eq_take_drop]
    rw [List.drop_take])
  induction d with
  | zero =>
    intro i f acc hf hi hd ha k hk
    obtain ⟨k, rfl⟩ : ∃ j, k = j + 2 := ⟨k - 2, by omega⟩
    have w1 : wrap64 ((i : Int) + 1) = ((i + 1 : Nat) : Int) := by rw [wrap_in (by omega) (by omega)]; omega
    have hnil : s.data.toList.drop i = [] := List.drop_eq_nil_of_le (by rw [Array.length_toList]; show s.size ≤ i; omega)
    rw [spec_verSplit.l0, if_pos (by omega), if_pos (by omega), if_pos (by omega), if_pos (by omega), if_pos (by omega), w1, spec_verSplit.l0, if_neg (by omega), hnil, ex]
    simp [qSplitOn, splitV]
  | succ d ih =>
    intro i f acc hf hi hd ha k hk
    obtain ⟨k, rfl⟩ : ∃ j, k = j + 1 := ⟨k - 1, by omega⟩
    have hlt : i < s.size := by omega
    have w1 : wrap64 ((i : Int) + 1) = ((i + 1 : Nat) : Int) := by rw [wrap_in (by omega) (by omega)]; omega
    rw [drop_at s i hlt, spec_verSplit.l0, if_pos (by omega), if_neg (by omega), if_pos (by omega), if_pos (by omega), w1]
    by_cases hc : s[i] = c
    · rw [if_pos ((bt_same s i hlt c).2 hc), if_pos (by omega), if_pos (by omega), if_pos (by omega), ih (i + 1) (i + 1) _ (by omega) (by omega) (by omega) (by rw [List.length_append, List.length_singleton]; omega) k (by omega), qSplitOn, if_pos hc, ex]
      have e : (s.data.toList.take (i + 1)).drop (i + 1) = [] := List.drop_eq_nil_of_le (by rw [List.length_take]; omega)
      rw [e, List.append_assoc]
      cases hq : qSplitOn c (s.data.toList.drop (i + 1)) with
      | nil => exact absurd hq (qSplitOn_ne _ _)
      | cons h t => simp [splitV]
    · rw [if_neg (fun h => hc ((bt_same s i hlt c).1 h)), ih (i + 1) f acc (by omega) (by omega) (by omega) (by omega) k (by omega)]
      obtain ⟨p, q, h1, h2⟩ := qSplitOn_cons (r := s.data.toList.drop (i + 1)) hc
      rw [h1, h2]
      have e : (s.data.toList.take (i + 1)).drop f = (s.data.toList.take i).drop f ++ [s[i]] := by
        rw [List.take_succ_eq_append_getElem (by rw [Array.length_toList]; exact hlt), List.drop_append_of_le_length (by rw [List.length_take, Array.length_toList]; show f ≤ min i s.size; omega)]; rfl
      rw [e]; simp [splitV]
def partsV (c : UInt8) (s : ByteArray) : List ByteArray := (qSplitOn c s.data.toList).map mkB
theorem split_f (s : ByteArray) (hn : s.size ≤ 3000000000) (c : UInt8) (k : Nat) (hk : s.size + 1 < k) : spec_verSplit.f k s (c.toNat : Int) = some (partsV c s) := by
  have := split_tells s hn c s.size 0 0 [] (Nat.le_refl _) (Nat.zero_le _) (by omega) (by rw [List.length_nil]; omega) k hk
  rw [spec_verSplit.f]
  refine this.trans ?_
  unfold partsV
  cases hq : qSplitOn c s.data.toList with
  | nil => exact absurd hq (qSplitOn_ne _ _)
  | cons h t => simp [splitV, hq]
theorem or_tab : ∀ n : Fin 256, (Go.bits .or .u8 ((n.val : Nat) : Int) 32 < 97 ∨ 122 < Go.bits .or .u8 ((n.val : Nat) : Int) 32) ↔ ¬ ((97 ≤ n.val ∧ n.val ≤ 122) ∨ (65 ≤ n.val ∧ n.val ≤ 90)) := by decide +kernel
theorem or_id (c : UInt8) : (Go.bits .or .u8 ((c.toNat : Nat) : Int) 32 < 97 ∨ 122 < Go.bits .or .u8 ((c.toNat : Nat) : Int) 32) ↔ ¬ ((97 ≤ c.toNat ∧ c.toNat ≤ 122) ∨ (65 ≤ c.toNat ∧ c.toNat ≤ 90)) :=
  or_tab ⟨c.toNat, c.toNat_lt⟩
theorem tree_id {α : Type} (c : UInt8) (S B : α) : (if (c.toNat : Int) < 48 then (if (c.toNat : Int) = 45 then S else B) else (if (c.toNat : Int) > 57 then (if (c.toNat : Int) = 45 then S else B) else S)) = if isDig c = true ∨ c.toNat = 45 then S else B := by
  have hd : isDig c = true ↔ 48 ≤ c.toNat ∧ c.toNat ≤ 57 := by simp only [isDig, Bool.and_eq_true, decide_eq_true_eq]
  by_cases h1 : (c.toNat : Int) < 48
  · rw [if_pos h1]
    by_cases h2 : (c.toNat : Int) = 45
    · rw [if_pos h2, if_pos (Or.inr (by omega))]
    · rw [if_neg h2, if_neg (by rw [hd]; omega)]
  · rw [if_neg h1]
    by_cases h2 : (c.toNat : Int) > 57
    · rw [if_pos h2, if_neg (by omega), if_neg (by rw [hd]; omega)]
    · rw [if_neg h2, if_pos (by rw [hd]; omega)]
theorem tree_or {α : Type} (o : Int) (T S : α) : (if o < 97 then T else if o > 122 then T else S) = if o < 97 ∨ 122 < o then T else S := by
  by_cases h1 : o < 97
  · rw [if_pos h1, if_pos (Or.inl h1)]
  · by_cases h2 : o > 122
    · rw [if_neg h1, if_pos h2, if_pos (Or.inr h2)]
    · rw [if_neg h1, if_neg h2, if_neg (by omega)]
set_option maxHeartbeats 4000000 in
theorem idents_tells (L : List ByteArray) (hL : ∀ x ∈ L, x.size ≤ 140737488351232) (hl : L.length ≤ 3000000000) (d : Nat) : ∀ j : Nat, j ≤ L.length → L.length - j = d → ∃ k0, ∀ k, k0 ≤ k →
    spec_verIdents.l0 k L L (L.length : Int) (j : Int) = some (if (L.drop j).all (fun x => !x.data.toList.isEmpty && x.data.toList.all isId) then (L, true) else ([], false)) := by
  induction d with
  | zero =>
    intro j hj hd
    refine ⟨1, fun k hk => ?_⟩
    obtain ⟨k, rfl⟩ : ∃ i, k = i + 1 := ⟨k - 1, by omega⟩
    rw [spec_verIdents.l0, if_neg (by omega), List.drop_eq_nil_of_le (by omega)]
    rfl
  | succ d ih =>
    intro j hj hd
    have hlt : j < L.length := by omega
    obtain ⟨k0, ih⟩ := ih (j + 1) (by omega) (by omega)
    generalize hx : L[j] = x
    have hxs : x.size ≤ 140737488351232 := hL x (by rw [← hx]; exact List.getElem_mem hlt)
    have hrd : rdOf ByteArray.empty L (j : Int) = x := by
      rw [← hx]; simp [rdOf, hlt]
    have hdrop : L.drop j = x :: L.drop (j + 1) := by rw [List.drop_eq_getElem_cons hlt, hx]
    -- the bytes of the piece
    have inner : ∀ e i : Nat, i ≤ x.size → x.size - i = e → ∃ k1, ∀ k, k1 ≤ k →
        spec_verIdents.l1 k L x (i : Int) L (L.length : Int) (j : Int) = some (if (x.data.toList.drop i).all isId && !x.data.toList.isEmpty && (L.drop (j + 1)).all (fun x => !x.data.toList.isEmpty && x.data.toList.all isId) then (L, true) else ([], false)) := by
      intro e
      induction e with
      | zero =>
        intro i hi he
        refine ⟨k0 + 1, fun k hk => ?_⟩
        obtain ⟨k, rfl⟩ : ∃ i, k = i + 1 := ⟨k - 1, by omega⟩
        rw [spec_verIdents.l1, if_neg (by omega), List.drop_eq_nil_of_le (by rw [Array.length_toList]; show x.size ≤ i; omega)]
        by_cases hn : x.data.toList = []
        · have : x.toList = [] := by rw [ByteArray.toList_eq]; exact hn
          rw [if_pos this, hn]; simp
        · have : ¬ x.toList = [] := by rw [ByteArray.toList_eq]; exact hn
          have w1 : wrap64 ((j : Int) + 1) = ((j + 1 : Nat) : Int) := by rw [wrap_in (by omega) (by omega)]; omega
          rw [if_neg this, w1, ih k (by omega)]
          have : x.data.toList.isEmpty = false := by cases h : x.data.toList with | nil => exact absurd h hn | cons _ _ => rfl
          rw [this]; simp
      | succ e ihe =>
        intro i hi he
        have hlti : i < x.size := by omega
        obtain ⟨k1, ihe⟩ := ihe (i + 1) (by omega) (by omega)
        refine ⟨k1 + 1, fun k hk => ?_⟩
        obtain ⟨k, rfl⟩ : ∃ i, k = i + 1 := ⟨k - 1, by omega⟩
        have w2 : wrap64 ((i : Int) + 1) = ((i + 1 : Nat) : Int) := by rw [wrap_in (by omega) (by omega)]; omega
        have e1 := ihe k (by omega)
        have g1 : (i : Int) < (x.size : Int) := Int.ofNat_lt.2 hlti
        have g2 : (0 : Int) ≤ (i : Int) := Int.natCast_nonneg i
        rw [drop_at x i hlti, spec_verIdents.l1, if_pos g1, if_pos g2, bt_nat x i hlti, w2, List.all_cons]
        generalize spec_verIdents.l1 k L x ((i + 1 : Nat) : Int) L (L.length : Int) (j : Int) = S at e1 ⊢
        generalize x[i] = c
        have ho := or_id c
        generalize Go.bits .or .u8 ((c.toNat : Nat) : Int) 32 = o at *
        rw [tree_id, tree_or]
        have hid : (isId c = true) ↔ ((isDig c = true ∨ c.toNat = 45) ∨ ((97 ≤ c.toNat ∧ c.toNat ≤ 122) ∨ (65 ≤ c.toNat ∧ c.toNat ≤ 90))) := by
          simp only [isId, Bool.or_eq_true, Bool.and_eq_true, decide_eq_true_eq, beq_iff_eq]
          cases isDig c <;> simp <;> omega
        by_cases h1 : isId c = true
        · rw [h1, Bool.true_and, e1]
          by_cases h2 : o < 97 ∨ 122 < o
          · rw [if_pos h2, if_pos ((hid.1 h1).resolve_right (ho.1 h2))]
          · rw [if_neg h2]
        · have hf : isId c = false := by simpa using h1
          rw [hf, Bool.false_and, Bool.false_and, Bool.false_and, if_pos (ho.2 fun h => h1 (hid.2 (Or.inr h))), if_neg (fun h => h1 (hid.2 (Or.inl h)))]
          rfl
    obtain ⟨k1, inn⟩ := inner x.size 0 (Nat.zero_le _) (by omega)
    refine ⟨k1 + 1, fun k hk => ?_⟩
    obtain ⟨k, rfl⟩ : ∃ i, k = i + 1 := ⟨k - 1, by omega⟩
    rw [spec_verIdents.l0, if_pos (by omega), if_pos (by omega), if_pos (by omega), hrd, hdrop, List.all_cons]
    refine (inn k (by omega)).trans ?_
    rw [List.drop_zero, Bool.and_comm (!_) _]
theorem parts_len (c : UInt8) : ∀ l : List UInt8, (qSplitOn c l).length ≤ l.length + 1
  | [] => Nat.le_refl _
  | x :: r => by
    have := parts_len c r
    by_cases h : x = c
    · rw [qSplitOn, if_pos h]; simp; omega
    · obtain ⟨p, q, h1, h2⟩ := qSplitOn_cons (r := r) h
      rw [h2]; rw [h1] at this; simp at this ⊢; omega
theorem parts_size (c : UInt8) : ∀ l : List UInt8, ∀ x ∈ qSplitOn c l, x.length ≤ l.length
  | [], x, hx => by simp [qSplitOn] at hx; simp [hx]
  | y :: r, x, hx => by
    have ih := parts_size c r
    by_cases h : y = c
    · rw [qSplitOn, if_pos h] at hx
      rcases List.mem_cons.1 hx with rfl | hx
      · simp
      · have := ih x hx; simp; omega
    · obtain ⟨p, q, h1, h2⟩ := qSplitOn_cons (r := r) h
      rw [h2] at hx; rw [h1] at ih
      rcases List.mem_cons.1 hx with rfl | hx
      · have := ih p (List.mem_cons_self ..); simp; omega
      · have := ih x (List.mem_cons_of_mem _ hx); simp; omega
theorem idents_f (s : ByteArray) (hn : s.size ≤ 2500000000) : ∃ k, spec_verIdents.f k s = some (if qIdentsB s.data.toList then (partsV 46 s, true) else ([], false)) := by
  have hlen : (partsV 46 s).length ≤ s.size + 1 := by
    unfold partsV; rw [List.length_map]
    have := parts_len 46 s.data.toList
    rw [Array.length_toList] at this; exact this
  have hmem : ∀ x ∈ partsV 46 s, x.size ≤ 140737488351232 := by
    intro x hx
    obtain ⟨y, hy, rfl⟩ := List.mem_map.1 hx
    have := parts_size 46 s.data.toList y hy
    rw [Array.length_toList] at this
    have h2 : s.data.size = s.size := rfl
    have h3 : (mkB y).size = y.length := by show y.toArray.size = _; rw [List.size_toArray]
    have h4 : s.data.toList.length = s.size := by rw [Array.length_toList]; rfl
    have h5 := parts_size 46 s.data.toList y hy
    clear h2 this
    rw [h3]; omega
  obtain ⟨k0, h⟩ := idents_tells (partsV 46 s) hmem (by omega) (partsV 46 s).length 0 (Nat.zero_le _) (by omega)
  refine ⟨k0 + s.size + 2, ?_⟩
  have h46 : ((46 : UInt8).toNat : Int) = 46 := rfl
  have hs := split_f s (by omega) 46 (k0 + s.size + 2) (by omega)
  rw [h46] at hs
  rw [spec_verIdents.f, hs]
  show spec_verIdents.l0 _ _ _ _ _ = _
  refine (h _ (by omega)).trans ?_
  rw [List.drop_zero]
  have e : (partsV 46 s).all (fun x => !x.data.toList.isEmpty && x.data.toList.all isId) = qIdentsB s.data.toList := by
    unfold partsV qIdentsB
    rw [List.all_map]; rfl
  rw [e]
theorem digits_tells (s : ByteArray) (hn : s.size ≤ 140737488351232) (d : Nat) : ∀ i, i ≤ s.size → s.size - i = d → ∀ k, d < k →
    spec_verDigits.l0 k s (i : Int) = some ((s.data.toList.drop i).all isDig && (!s.data.toList.isEmpty || decide (i < s.size))) := by
  induction d with
  | zero =>
    intro i hi hd k hk
    obtain ⟨k, rfl⟩ : ∃ j, k = j + 1 := ⟨k - 1, by omega⟩
    rw [spec_verDigits.l0, if_neg (by omega), List.drop_eq_nil_of_le (by rw [Array.length_toList]; show s.size ≤ i; omega), decide_eq_false (by omega), ByteArray.toList_eq]
    cases s.data.toList <;> rfl
  | succ d ih =>
    intro i hi hd k hk
    obtain ⟨k, rfl⟩ : ∃ j, k = j + 1 := ⟨k - 1, by omega⟩
    have hlt : i < s.size := by omega
    have w1 : wrap64 ((i : Int) + 1) = ((i + 1 : Nat) : Int) := by rw [wrap_in (by omega) (by omega)]; omega
    have hne : s.data.toList.isEmpty = false := by
      cases h : s.data.toList with
      | nil => exfalso; have : s.data.toList.length = 0 := by rw [h]; rfl
               rw [Array.length_toList] at this; have h2 : s.data.size = s.size := rfl; omega
      | cons _ _ => rfl
    rw [drop_at s i hlt, spec_verDigits.l0, if_pos (by omega), if_pos (by omega), bt_nat s i hlt, w1, ih (i + 1) (by omega) (by omega) k (by omega), List.all_cons, hne]
    generalize s[i] = c
    by_cases a : (c.toNat : Int) < 48
    · rw [if_pos a, show isDig c = false from by unfold isDig; rw [decide_eq_false (by omega)]; rfl]; rfl
    · by_cases b : (c.toNat : Int) > 57
      · rw [if_neg a, if_pos b, show isDig c = false from by unfold isDig; rw [decide_eq_false (p := c.toNat ≤ 57) (by omega)]; simp]; rfl
      · rw [if_neg a, if_neg b, show isDig c = true from by unfold isDig; rw [decide_eq_true (by omega), decide_eq_true (by omega)]; rfl]; simp
theorem num_tells (s : ByteArray) (hn : s.size ≤ 140737488351232) (d : Nat) : ∀ i acc : Nat, i ≤ s.size → s.size - i = d → (s.data.toList.drop i).all isDig = true → acc ≤ 18446744073709551615 → ∀ k, d < k →
    spec_verNumber.l0 k s (acc : Int) (i : Int) = some (match Lib.parseUintM 18446744073709551615 acc (s.data.toList.drop i) with | .ok u => ((u : Int), true) | _ => (0, false)) := by
  induction d with
  | zero =>
    intro i acc hi hd _ _ k hk
    obtain ⟨k, rfl⟩ : ∃ j, k = j + 1 := ⟨k - 1, by omega⟩
    rw [spec_verNumber.l0, if_neg (by omega), List.drop_eq_nil_of_le (by rw [Array.length_toList]; show s.size ≤ i; omega)]
    rfl
  | succ d ih =>
    intro i acc hi hd hall hacc k hk
    obtain ⟨k, rfl⟩ : ∃ j, k = j + 1 := ⟨k - 1, by omega⟩
    have hlt : i < s.size := by omega
    have w1 : wrap64 ((i : Int) + 1) = ((i + 1 : Nat) : Int) := by rw [wrap_in (by omega) (by omega)]; omega
    rw [drop_at s i hlt, List.all_cons, Bool.and_eq_true] at hall
    obtain ⟨hd1, hall⟩ := hall
    rw [drop_at s i hlt, spec_verNumber.l0, if_pos (by omega), if_pos (by omega), bt_nat s i hlt, w1, Lib.parseUintM]
    generalize s[i] = c at *
    simp only [isDig, Bool.and_eq_true, decide_eq_true_eq] at hd1
    rw [if_pos hd1]
    have hm : ((c.toNat : Int) - 48) % 256 = ((c.toNat - 48 : Nat) : Int) := by omega
    rw [hm]
    by_cases h1 : 1844674407370955162 ≤ acc
    · rw [if_pos h1, if_pos (by omega)]
    · rw [if_neg h1]
      by_cases h2 : 18446744073709551615 < acc * 10 + (c.toNat - 48)
      · rw [if_pos h2, if_pos (by omega)]
      · rw [if_neg h2, if_neg (by omega)]
        have e : IntKind.u64.wrap (IntKind.u64.wrap (10 * (acc : Int)) + ((c.toNat - 48 : Nat) : Int)) = ((acc * 10 + (c.toNat - 48) : Nat) : Int) := by
          have u : ∀ z : Int, 0 ≤ z → z ≤ 18446744073709551615 → IntKind.u64.wrap z = z := fun z h0 h1 => by
            show z % 18446744073709551616 = z; omega
          rw [u (10 * (acc : Int)) (by omega) (by omega), u _ (by omega) (by omega)]; omega
        rw [e]
        exact ih (i + 1) _ (by omega) (by omega) hall (by omega) k (by omega)
theorem number_f (s : ByteArray) (hn : s.size ≤ 140737488351232) : ∃ n k, spec_verNumber.f k s = some (n, (qNumB s.data.toList).isSome) ∧ ∀ u, qNumB s.data.toList = some u → n = (u : Int) := by
  have hd := digits_tells s hn s.size 0 (Nat.zero_le _) (by omega) (s.size + 1) (by omega)
  have hb : ((s.data.toList.drop 0).all isDig && (!s.data.toList.isEmpty || decide (0 < s.size))) = (s.data.toList.all isDig && !s.data.toList.isEmpty) := by
    rw [List.drop_zero]
    cases h : s.data.toList with
    | nil => have : s.data.toList.length = 0 := by rw [h]; rfl
             rw [Array.length_toList] at this; have h2 : s.data.size = s.size := rfl
             rw [decide_eq_false (by omega)]; rfl
    | cons _ _ => simp
  rw [hb] at hd
  by_cases hok : (s.data.toList.all isDig && !s.data.toList.isEmpty) = true
  · have hnum := num_tells s hn s.size 0 0 (Nat.zero_le _) (by omega) (by rw [List.drop_zero]; exact (Bool.and_eq_true _ _ ▸ hok).1) (by omega) (s.size + 1) (by omega)
    have hne : s.data.toList ≠ [] := by intro h; rw [h] at hok; simp at hok
    have hq : Lib.parseUintB 64 s.data.toList = Lib.parseUintM 18446744073709551615 0 s.data.toList := by rw [Lib.parseUintB, if_neg hne]
    rw [List.drop_zero, ← hq] at hnum
    unfold qNumB
    have open0 : spec_verNumber.f (s.size + 1) s = spec_verNumber.l0 (s.size + 1) s 0 0 := by
      rw [spec_verNumber.f, spec_verDigits.f]
      show ((spec_verDigits.l0 (s.size + 1) s ((0 : Nat) : Int)).bind _) = _
      rw [hd, hok]; rfl
    have hnum' : spec_verNumber.f (s.size + 1) s = _ := open0.trans hnum
    cases hp : Lib.parseUintB 64 s.data.toList <;> rw [hp] at hnum' <;>
      first
        | exact ⟨_, s.size + 1, hnum', fun v hv => by cases hv; rfl⟩
        | exact ⟨0, s.size + 1, hnum', fun v hv => by cases hv⟩
  · have hok' : (s.data.toList.all isDig && !s.data.toList.isEmpty) = false := by simpa using hok
    have hq : qNumB s.data.toList = none := by
      cases h : qNumB s.data.toList with
      | none => rfl
      | some u =>
        obtain ⟨_, h1, h2⟩ := qNumB_some h
        exfalso; apply hok
        rw [h2]
        cases h3 : s.data.toList with
        | nil => exact absurd h3 h1
        | cons _ _ => rfl
    exact ⟨0, s.size + 1, by
      rw [spec_verNumber.f, spec_verDigits.f]
      show ((spec_verDigits.l0 (s.size + 1) s ((0 : Nat) : Int)).bind _) = _
      rw [hd, hok', hq]; rfl, fun u hu => by rw [hq] at hu; cases hu⟩
end Go.Proofs.YtgoeiflddikihaaGreatDoor.Ver
end
section
namespace Go.Proofs.YtgoeiflddikihaaGreatDoor.Ver
open Go.Proofs.YtgoeiflddikihaaGreatDoor.Ord
def preParts (l : List UInt8) : List (List UInt8) := if l = [] then [] else qSplitOn 46 l
end Go.Proofs.YtgoeiflddikihaaGreatDoor.Ver
end
section
namespace Go.Proofs.YtgoeiflddikihaaGreatDoor.Ver
open Go.RowKit Go.Sort Go.Proofs.YtgoeiflddikihaaGreatDoor.Dig Go.Proofs.YtgoeiflddikihaaGreatDoorW.PrintWords
theorem zero_row (w : World) (T : TypeId) (nd : Nat) (hs : nd ≤ 24) : Holds (fun (b : UInt8) => Value.int .u8 (b.toNat : Int)) (w.alloc (.cells Lib.zeros24 T)) w.heap.size 0 (Array.replicate nd (0 : UInt8)) := fun j hj => by
  have hj' : j < nd := by simpa using hj
  refine ⟨?_, World.frozen?_alloc_new _ _ _ _⟩
  rw [World.cell?_alloc_new, Lib.zeros24_at _ (by omega), getElem!_pos _ j hj]
  simp
theorem row_below (w : World) (o : Obj) (dk : Array UInt8) (k : Nat) : Below w.heap.size w ((putRow (fun (b : UInt8) => Value.int .u8 (b.toNat : Int)) (w.alloc o) w.heap.size 0 dk).drewN k) := by
  rw [alloc_eq_grow]
  obtain ⟨os', _, e⟩ := putRow_grow_new (fun (b : UInt8) => Value.int .u8 (b.toNat : Int)) w #[o] w.heap.size 0 dk (Nat.le_refl _)
  rw [e]
  exact ⟨rfl, by simp [World.drewN, Sort.grow], rfl, by simp [World.drewN, Sort.grow], fun j hj => by simp [World.drewN, Sort.grow, Array.getElem?_append]; intro h; exact absurd h (by omega)⟩
set_option maxRecDepth 20000 in
theorem fmtU_inner (u : Nat) (hu : u < 18446744073709551616) (w : World) (hv : Vars w) : Calls Tryz.prog 236 #[.int .u64 u, .int .i64 10] w fun e w' => e = .returned (.string ⟨(Lib.decDigits u).toArray⟩) ∧ Below w.heap.size w w' := by
  by_cases hs : u < 100
  · go_enter Tryz.func236, Tryz.ntmps236
    go_wp2_with (go_at_call 168; (refine (Tryz.internal_strconv_small u hs _).mono ?_; rintro e w' ⟨rfl, rfl⟩))
    go_ret
    exact ⟨rfl, Below.refl _ _⟩
  · have hu1 : 1 ≤ u := by omega
    have hnd20 : Lib.nDigits u ≤ 20 := by have := Lib.numDigits_eq u hu1 hu; split at this <;> omega
    have hsl1 : ∀ W, (Instr.sliceAt 277 (.pointer (some ⟨w.heap.size, 0, none⟩)) none (some (.int .i64 (Lib.nDigits u : Int))) none).run Tryz.prog W = .ok (.slice (some ⟨w.heap.size, 0, none⟩) (Lib.nDigits u) 24) W := fun W => by
      rw [run_sliceAt_array_h W 277 ⟨w.heap.size, 0, none⟩ (by kernel_rfl) .i64 (Lib.nDigits u : Int) (by omega) (by rw [show Tryz.prog.arrayLen 277 = 24 by kernel_rfl]; omega)]
      rw [show Tryz.prog.arrayLen 277 = 24 by kernel_rfl, show Tryz.prog.elem 277 = 5 by kernel_rfl, show (sizeOf 5).run Tryz.prog W = .ok 1 W by kernel_rfl]
      simp [Result.andThen, slicedAt, Lib.add_plain]
    have hH0 := zero_row w 277 (Lib.nDigits u) (by omega)
    have hfmt := Tryz.internal_strconv_formatBase10 w.heap.size 0 24 u (Array.replicate (Lib.nDigits u) 0) (w.alloc (.cells Lib.zeros24 277)) hH0 (by rw [Array.size_replicate]; exact Lib.lt_pow_nDigits u) hu (by rw [Array.size_replicate]; omega)
    rw [Array.size_replicate] at hfmt
    have HH0 := Lib.hid hH0
    have HT := Lib.hid (Tryz.internal_strconv_numDigits u hu1 hu _ (Lib.tabIs_alloc hv.tab (.cells Lib.zeros24 277)))
    have HF := Lib.hid hfmt
    clear hH0 hv hfmt
    go_enter Tryz.func236, Tryz.ntmps236
    go_wp2_with (first
      | (go_at_call 169; (refine HT.out.mono ?_; rintro e w' ⟨rfl, rfl⟩))
      | (go_at_call 170; (refine HF.out.mono ?_; rintro e w' ⟨rfl, k, v', dk, rfl, hF⟩; refine Hid.out ?_)))
    have hcv : (convert 80 9 (.slice (some ⟨w.heap.size, 0, none⟩) (Lib.nDigits u) 24)).run Tryz.prog ((putRow (fun (b : UInt8) => Value.int .u8 (b.toNat : Int)) (w.alloc (.cells Lib.zeros24 277)) w.heap.size 0 dk).drewN k) = .ok (.string ⟨(Lib.decDigits u).toArray⟩) ((putRow (fun (b : UInt8) => Value.int .u8 (b.toNat : Int)) (w.alloc (.cells Lib.zeros24 277)) w.heap.size 0 dk).drewN k) := by
      have h := run_convert_bytes_back (P := Tryz.prog) ((putRow (fun (b : UInt8) => Value.int .u8 (b.toNat : Int)) (w.alloc (.cells Lib.zeros24 277)) w.heap.size 0 dk).drewN k) 80 9 5 ⟨w.heap.size, 0, none⟩ 24 (Lib.decDigits u) Tryz.underlying80 Tryz.underlying5 Tryz.underlying9 (fun j hj => by
        rw [Lib.row_is_numeral hF j hj, Lib.add_plain, World.cell?_drewN]
        exact cell?_putRow (fun (b : UInt8) => Value.int .u8 (b.toNat : Int)) _ w.heap.size 0 _ dk HH0.out (by rw [hF.size, Array.size_replicate]) j (by rw [hF.size]; rw [Lib.decDigits_length] at hj; exact hj))
      rw [Lib.decDigits_length] at h
      exact h
    clear hF
    refine Lib.hid ?_
    go_wp2_with fail
    go_ret
    exact ⟨rfl, row_below w _ dk k⟩
theorem fmtU_any (u : Nat) (hu : u < 18446744073709551616) (w : World) (hv : Vars w) : Calls Tryz.prog 235 #[.int .u64 u, .int .i64 10] w fun e w' => e = .returned (.string ⟨(Lib.decDigits u).toArray⟩) ∧ Below w.heap.size w w' := by
  have H := Lib.hid (fmtU_inner u hu w hv)
  clear hv
  go_enter Tryz.func235, Tryz.ntmps235
  go_wp2_with (go_at_call 236; (refine H.out.mono ?_; rintro e w' ⟨rfl, hb⟩))
  go_ret
  exact ⟨rfl, hb⟩
end Go.Proofs.YtgoeiflddikihaaGreatDoor.Ver
end
section
namespace Go.Proofs.YtgoeiflddikihaaGreatDoor.Ver
open Go.RowKit Go.Proofs.YtgoeiflddikihaaGreatDoorW.PrintWords Go.Proofs.YtgoeiflddikihaaGreatDoor.Ord
theorem str_cases (x y : ByteArray) : (Op.bytesLess x.toList y.toList = true ∧ (x.toList == y.toList) = false ∧ bytesC x.data.toList y.data.toList = -1) ∨ (Op.bytesLess x.toList y.toList = false ∧ (x.toList == y.toList) = true ∧ bytesC x.data.toList y.data.toList = 0) ∨ (Op.bytesLess x.toList y.toList = false ∧ (x.toList == y.toList) = false ∧ bytesC x.data.toList y.data.toList = 1) := by
  rw [ByteArray.toList_eq, ByteArray.toList_eq, bytesC_form]
  generalize x.data.toList = a
  generalize y.data.toList = b
  by_cases h : Op.bytesLess a b = true
  · refine Or.inl ⟨h, ?_, by rw [if_pos h]⟩
    rw [beq_eq_false_iff_ne]
    rintro rfl
    have := (bytesC_less a a).2 h
    rw [cmp_bytes.refl] at this
    omega
  · have h' : Op.bytesLess a b = false := by simpa using h
    by_cases e : a = b
    · exact Or.inr (Or.inl ⟨h', beq_iff_eq.2 e, by rw [if_neg h, if_pos e]⟩)
    · exact Or.inr (Or.inr ⟨h', beq_eq_false_iff_ne.2 e, by rw [if_neg h, if_neg e]⟩)
theorem num_as {s : ByteArray} {b : Bool} (hn : s.size ≤ 140737488351232) (h : idNum s.data.toList = b) (w : World) : Calls Tryz.prog 212 #[.string s] w fun e w' => e = .returned (.bool b) ∧ Drawn0 w w' :=
  (number_any s hn w).mono fun _ _ ⟨he, hd⟩ => ⟨by rw [he, h], ⟨hd⟩⟩
theorem bare_as (s : ByteArray) (w : World) : Calls Tryz.prog 213 #[.string s] w fun e w' => e = .returned (.string (bareB s)) ∧ Drawn0 w w' :=
  (bare_any s w).mono fun _ _ ⟨he, hd⟩ => ⟨he, ⟨hd⟩⟩
set_option maxHeartbeats 2000000 in
theorem cp_nn (x y : ByteArray) (hx : x.size ≤ 140737488351232) (hy : y.size ≤ 140737488351232) (ha : idNum x.data.toList = true) (hb : idNum y.data.toList = true) (w : World) :
    Calls Tryz.prog 211 #[.string x, .string y] w fun e w' => e = .returned (.int .i64 (idC x.data.toList y.data.toList)) ∧ Drawn0 w w' := by
  have N1 := Lib.hid (num_as hx ha)
  have N2 := Lib.hid (num_as hy hb)
  have B1 := Lib.hid (bare_as x)
  have B2 := Lib.hid (bare_as y)
  have z1 : (bareZ x.data.toList).length = (bareB x).size := (len_list (bareB x))
  have z2 : (bareZ y.data.toList).length = (bareB y).size := (len_list (bareB y))
  have hR := idC_nn ha hb
  rw [z1, z2] at hR
  rw [hR]
  clear hR hx hy
  by_cases hl : (bareB x).size = (bareB y).size
  · rw [if_pos hl]
    show Calls _ _ _ _ fun e w' => e = .returned (.int .i64 (bytesC (bareB x).data.toList (bareB y).data.toList)) ∧ _
    have l1 : (((bareB x).size : Int) != ((bareB y).size : Int)) = false := by rw [hl]; simp
    clear hl ha hb z1 z2
    generalize bareB x = X at *
    generalize bareB y = Y at *
    rcases str_cases X Y with ⟨c1, c2, c3⟩ | ⟨c1, c2, c3⟩ | ⟨c1, c2, c3⟩
    all_goals
      rw [c3]
      clear c3
      go_enter Tryz.func211, Tryz.ntmps211
      go_wp2_with (first
        | (go_at_call 212; ((with_reducible refine (N1.out _).mono ?_); rintro e w1 ⟨rfl, ⟨n1, rfl⟩⟩))
        | (go_at_call 212; ((with_reducible refine (N2.out _).mono ?_); rintro e w1 ⟨rfl, ⟨n2, rfl⟩⟩))
        | (go_at_call 213; ((with_reducible refine (B1.out _).mono ?_); rintro e w1 ⟨rfl, ⟨n3, rfl⟩⟩))
        | (go_at_call 213; ((with_reducible refine (B2.out _).mono ?_); rintro e w1 ⟨rfl, ⟨n4, rfl⟩⟩)))
      go_ret
      exact ⟨rfl, by repeat (first | exact Drawn0.refl _ | apply Drawn0.step)⟩
  · rw [if_neg hl]
    have l1 : (((bareB x).size : Int) != ((bareB y).size : Int)) = true := by rw [bne_iff_ne]; omega
    by_cases hlt : (bareB x).size < (bareB y).size
    · rw [if_pos hlt]
      have l2 : decide ((bareB x).size < (bareB y).size) = true := decide_eq_true hlt
      clear hl ha hb z1 z2 hlt
      generalize bareB x = X at *
      generalize bareB y = Y at *
      go_enter Tryz.func211, Tryz.ntmps211
      go_wp2_with (first
        | (go_at_call 212; ((with_reducible refine (N1.out _).mono ?_); rintro e w1 ⟨rfl, ⟨n1, rfl⟩⟩))
        | (go_at_call 212; ((with_reducible refine (N2.out _).mono ?_); rintro e w1 ⟨rfl, ⟨n2, rfl⟩⟩))
        | (go_at_call 213; ((with_reducible refine (B1.out _).mono ?_); rintro e w1 ⟨rfl, ⟨n3, rfl⟩⟩))
        | (go_at_call 213; ((with_reducible refine (B2.out _).mono ?_); rintro e w1 ⟨rfl, ⟨n4, rfl⟩⟩)))
      go_ret
      exact ⟨rfl, by repeat (first | exact Drawn0.refl _ | apply Drawn0.step)⟩
    · rw [if_neg hlt]
      have l2 : decide ((bareB x).size < (bareB y).size) = false := decide_eq_false hlt
      clear hl ha hb z1 z2 hlt
      generalize bareB x = X at *
      generalize bareB y = Y at *
      go_enter Tryz.func211, Tryz.ntmps211
      go_wp2_with (first
        | (go_at_call 212; ((with_reducible refine (N1.out _).mono ?_); rintro e w1 ⟨rfl, ⟨n1, rfl⟩⟩))
        | (go_at_call 212; ((with_reducible refine (N2.out _).mono ?_); rintro e w1 ⟨rfl, ⟨n2, rfl⟩⟩))
        | (go_at_call 213; ((with_reducible refine (B1.out _).mono ?_); rintro e w1 ⟨rfl, ⟨n3, rfl⟩⟩))
        | (go_at_call 213; ((with_reducible refine (B2.out _).mono ?_); rintro e w1 ⟨rfl, ⟨n4, rfl⟩⟩)))
      go_ret
      exact ⟨rfl, by repeat (first | exact Drawn0.refl _ | apply Drawn0.step)⟩
theorem cp_na (x y : ByteArray) (hx : x.size ≤ 140737488351232) (hy : y.size ≤ 140737488351232) (ha : idNum x.data.toList = true) (hb : idNum y.data.toList = false) (w : World) :
    Calls Tryz.prog 211 #[.string x, .string y] w fun e w' => e = .returned (.int .i64 (idC x.data.toList y.data.toList)) ∧ Drawn0 w w' := by
  have N1 := Lib.hid (num_as hx ha)
  have N2 := Lib.hid (num_as hy hb)
  rw [idC_na ha hb]
  clear ha hb hx hy
  go_enter Tryz.func211, Tryz.ntmps211
  go_wp2_with (first
    | (go_at_call 212; ((with_reducible refine (N1.out _).mono ?_); rintro e w1 ⟨rfl, ⟨n1, rfl⟩⟩))
    | (go_at_call 212; ((with_reducible refine (N2.out _).mono ?_); rintro e w1 ⟨rfl, ⟨n2, rfl⟩⟩)))
  go_ret
  exact ⟨rfl, by repeat (first | exact Drawn0.refl _ | apply Drawn0.step)⟩
theorem cp_an (x y : ByteArray) (hx : x.size ≤ 140737488351232) (hy : y.size ≤ 140737488351232) (ha : idNum x.data.toList = false) (hb : idNum y.data.toList = true) (w : World) :
    Calls Tryz.prog 211 #[.string x, .string y] w fun e w' => e = .returned (.int .i64 (idC x.data.toList y.data.toList)) ∧ Drawn0 w w' := by
  have N1 := Lib.hid (num_as hx ha)
  have N2 := Lib.hid (num_as hy hb)
  rw [idC_an ha hb]
  clear ha hb hx hy
  go_enter Tryz.func211, Tryz.ntmps211
  go_wp2_with (first
    | (go_at_call 212; ((with_reducible refine (N1.out _).mono ?_); rintro e w1 ⟨rfl, ⟨n1, rfl⟩⟩))
    | (go_at_call 212; ((with_reducible refine (N2.out _).mono ?_); rintro e w1 ⟨rfl, ⟨n2, rfl⟩⟩)))
  go_ret
  exact ⟨rfl, by repeat (first | exact Drawn0.refl _ | apply Drawn0.step)⟩
theorem cp_aa (x y : ByteArray) (hx : x.size ≤ 140737488351232) (hy : y.size ≤ 140737488351232) (ha : idNum x.data.toList = false) (hb : idNum y.data.toList = false) (w : World) :
    Calls Tryz.prog 211 #[.string x, .string y] w fun e w' => e = .returned (.int .i64 (idC x.data.toList y.data.toList)) ∧ Drawn0 w w' := by
  have N1 := Lib.hid (num_as hx ha)
  have N2 := Lib.hid (num_as hy hb)
  rw [idC_aa ha hb]
  clear ha hb hx hy
  rcases str_cases x y with ⟨c1, c2, c3⟩ | ⟨c1, c2, c3⟩ | ⟨c1, c2, c3⟩
  all_goals
    rw [c3]
    clear c3
    go_enter Tryz.func211, Tryz.ntmps211
    go_wp2_with (first
      | (go_at_call 212; ((with_reducible refine (N1.out _).mono ?_); rintro e w1 ⟨rfl, ⟨n1, rfl⟩⟩))
      | (go_at_call 212; ((with_reducible refine (N2.out _).mono ?_); rintro e w1 ⟨rfl, ⟨n2, rfl⟩⟩)))
    go_ret
    exact ⟨rfl, by repeat (first | exact Drawn0.refl _ | apply Drawn0.step)⟩
theorem compare_any (x y : ByteArray) (hx : x.size ≤ 140737488351232) (hy : y.size ≤ 140737488351232) (w : World) :
    Calls Tryz.prog 211 #[.string x, .string y] w fun e w' => e = .returned (.int .i64 (idC x.data.toList y.data.toList)) ∧ Drawn0 w w' := by
  cases ha : idNum x.data.toList <;> cases hb : idNum y.data.toList
  · exact cp_aa x y hx hy ha hb w
  · exact cp_an x y hx hy ha hb w
  · exact cp_na x y hx hy ha hb w
  · exact cp_nn x y hx hy ha hb w
end Go.Proofs.YtgoeiflddikihaaGreatDoor.Ver
end
section
namespace Go.Proofs.YtgoeiflddikihaaGreatDoor.Srt
open Go.RowKit Go.Proofs.YtgoeiflddikihaaGreatDoorW.PrintWords Go.Sort
section plain
variable {α : Type} [Inhabited α] (lt : α → α → Bool)
theorem inner_go (a j : Nat) (d : Array α) (hj : a < j) (hl : lt d[j]! d[j - 1]! = true) : insInner lt a j d = insInner lt a (j - 1) (swp d j (j - 1)) := by
  cases j with
  | zero => omega
  | succ j =>
    have h2 : lt d[j + 1]! d[j]! = true := hl
    simp only [insInner]
    rw [if_pos (by rw [h2, Bool.and_true]; exact decide_eq_true hj)]
    rfl
theorem inner_stop (a j : Nat) (d : Array α) (h : j ≤ a ∨ lt d[j]! d[j - 1]! = false) : insInner lt a j d = d := by
  cases j with
  | zero => rfl
  | succ j =>
    simp only [insInner]
    rw [if_neg]
    rcases h with h | h
    · rw [decide_eq_false (by omega)]; simp
    · have h2 : lt d[j + 1]! d[j]! = false := h
      rw [h2, Bool.and_false]; simp
theorem outer_go (a b i : Nat) (d : Array α) (h : i < b) : insOuter lt a b i d = insOuter lt a b (i + 1) (insInner lt a i d) := by rw [insOuter, if_pos h]
theorem outer_stop (a b i : Nat) (d : Array α) (h : ¬ i < b) : insOuter lt a b i d = d := by rw [insOuter, if_neg h]
theorem swp_size (d : Array α) (i j : Nat) : (swp d i j).size = d.size := by simp [swp]
end plain
variable {α : Type} [Inhabited α]
structure SI (enc : α → Value) (w : World) (blk off : Nat) (d : Array α) (W : World) : Prop where
  gr : w.grownBy W (some blk)
  holds : Holds enc W blk off d
  lt : blk < w.heap.size
theorem SI.below {enc : α → Value} {w : World} {blk off : Nat} {d : Array α} {W W' : World} (h : SI enc w blk off d W) (hb : Below W.heap.size W W') : SI enc w blk off d W' := by
  have hl : blk < W.heap.size := Nat.lt_of_lt_of_le h.lt h.gr.size
  refine ⟨h.gr.trans (grown_of_below hb _), fun j hj => ?_, h.lt⟩
  obtain ⟨h1, h2⟩ := h.holds j hj
  exact ⟨(hb.cell (p := ⟨blk, off + j, none⟩) hl).trans h1, (hb.frozen (p := ⟨blk, off + j, none⟩) hl).trans h2⟩
theorem SI.drewN {enc : α → Value} {w : World} {blk off : Nat} {d : Array α} {W : World} (h : SI enc w blk off d W) (n : Nat) : SI enc w blk off d (W.drewN n) := h.below (pw_below_drewN (Below.refl _ _) n)
theorem set_holds {enc : α → Value} {W : World} {blk off : Nat} {d : Array α} (h : Holds enc W blk off d) {i : Nat} (hi : i < d.size) (x : α) : Holds enc (W.setCell ⟨blk, off + i, none⟩ (enc x)) blk off (d.setIfInBounds i x) := by
  intro j hj
  have hj' : j < d.size := by simpa using hj
  obtain ⟨h1, h2⟩ := h j hj'
  refine ⟨?_, by rw [World.frozen?_setCell]; exact h2⟩
  by_cases e : i = j
  · subst e
    rw [getElem!_set_same d i x hi]
    exact World.cell?_setCell_same _ _ _ h1
  · rw [getElem!_set_other d i j x (fun e' => e e'.symm), World.cell?_setCell_other _ _ _ _ (by intro e'; injection e' with _ e'; omega)]
    exact h1
theorem SI.swap {enc : α → Value} {w : World} {blk off : Nat} {d : Array α} {W : World} (h : SI enc w blk off d W) {i j : Nat} (hi : i < d.size) (hj : j < d.size) :
    SI enc w blk off (swp d i j) ((W.setCell ⟨blk, off + i, none⟩ (enc d[j]!)).setCell ⟨blk, off + j, none⟩ (enc d[i]!)) :=
  ⟨(h.gr.trans (Lib.grownBy_setCell _ _ _ _)).trans (Lib.grownBy_setCell _ _ _ _), set_holds (set_holds h.holds hi d[j]!) (by simpa using hj) d[i]!, h.lt⟩
def LessC (gl : Nat) (rv : Value) (enc : α → Value) (lt : α → α → Bool) (w : World) (blk off n : Nat) : Prop :=
  ∀ (W : World) (d : Array α), SI enc w blk off d W → d.size = n → ∀ i j : Nat, i < n → j < n →
    Calls Tryz.prog gl #[rv, .int .i64 i, .int .i64 j] W fun e w' => e = .returned (.bool (lt d[i]! d[j]!)) ∧ Below W.heap.size W w'
def SwapC (gs : Nat) (rv : Value) (enc : α → Value) (w : World) (blk off n : Nat) : Prop :=
  ∀ (W : World) (d : Array α), SI enc w blk off d W → d.size = n → ∀ i j : Nat, i < n → j < n →
    Calls Tryz.prog gs #[rv, .int .i64 i, .int .i64 j] W fun e w' => e = .returned (.tuple #[]) ∧ SI enc w blk off (swp d i j) w'
structure Meth (T : TypeId) (rv : Value) (gn gl gs : Nat) : Prop where
  n : ∀ w, Sem.run Tryz.prog (method 417 T rv "Len") w = .ok (gn, rv) w
  l : ∀ w, Sem.run Tryz.prog (method 417 T rv "Less") w = .ok (gl, rv) w
  s : ∀ w, Sem.run Tryz.prog (method 417 T rv "Swap") w = .ok (gs, rv) w
  en : ∀ args w, (callFunc gn args).run Tryz.prog w = .ok (.enter gn args) w
  el : ∀ args w, (callFunc gl args).run Tryz.prog w = .ok (.enter gl args) w
  es : ∀ args w, (callFunc gs args).run Tryz.prog w = .ok (.enter gs args) w
set_option maxHeartbeats 2000000 in
set_option maxRecDepth 100000 in
theorem ins_any {T : TypeId} {rv : Value} {gn gl gs : Nat} (hm : Meth T rv gn gl gs) (enc : α → Value) (lt : α → α → Bool) (w : World) (blk off n : Nat) (hl : LessC gl rv enc lt w blk off n) (hs : SwapC gs rv enc w blk off n) (hn : n < 4611686018427387904)
    (a b : Nat) (hab : a ≤ b) (hb : b ≤ n) (W : World) (d : Array α) (hd : d.size = n) (hW : SI enc w blk off d W) :
    Calls Tryz.prog 132 #[.iface T rv, .int .i64 a, .int .i64 b] W fun e w' => e = .returned (.tuple #[]) ∧ SI enc w blk off (insertionSort lt d a b) w' := by
  have mL := hm.l
  have mS := hm.s
  have eL := hm.el
  have eS := hm.es
  have HW := Aside0.mk hW
  have HD := Lib.hid hd
  clear hW hd hm
  go_enter Tryz.func132, Tryz.ntmps132
  go_wp2
  go_loopw [6] (fun vi wr => ∃ (i : Nat) (dk : Array α), vi = .int .i64 i ∧ a < i ∧ i ≤ b + 1 ∧ Hid (dk.size = n) ∧ Aside0 (SI enc w blk off dk wr) ∧ Hid (insOuter lt a b i dk = insOuter lt a b (a + 1) d)) (fun vi _ => b + 1 - (intOf vi).toNat)
  case atStart => exact ⟨a + 1, d, by go_num, by omega, by omega, HD, HW, Lib.hid rfl⟩
  case round =>
    obtain ⟨i, dk, rfl, hai, hib, HK, HS, HO⟩ := hrel
    by_cases hlt : i < b
    · have d1 : decide (i < b) = true := decide_eq_true hlt
      go_wp2
      go_loopw [7] (fun vj wr2 => ∃ (j : Nat) (dj : Array α), vj = .int .i64 j ∧ a ≤ j ∧ j ≤ i ∧ Hid (dj.size = n) ∧ Aside0 (SI enc w blk off dj wr2) ∧ Hid (insInner lt a j dj = insInner lt a i dk)) (fun vj _ => (intOf vj).toNat)
      case atStart => exact ⟨i, dk, rfl, by omega, Nat.le_refl _, HK, HS, Lib.hid rfl⟩
      case round =>
        obtain ⟨j, dj, rfl, haj, hji, HJ, HT, HI⟩ := hrel
        have OUT : Hid ((j ≤ a ∨ lt dj[j]! dj[j - 1]! = false) → ∀ W2, SI enc w blk off dj W2 → ∃ (i' : Nat) (dk' : Array α), Value.int .i64 ((i : Int) + 1) = .int .i64 (i' : Nat) ∧ a < i' ∧ i' ≤ b + 1 ∧ Hid (dk'.size = n) ∧ Aside0 (SI enc w blk off dk' W2) ∧ Hid (insOuter lt a b i' dk' = insOuter lt a b (a + 1) d)) := Lib.hid (fun hst W2 h2 =>
          ⟨i + 1, dj, by go_num, by omega, by omega, HJ, ⟨h2⟩, Lib.hid (by rw [← HO.out, outer_go lt _ _ _ _ hlt, ← HI.out, inner_stop lt _ _ _ hst])⟩)
        by_cases hja : a < j
        · have hL := hl wr dj HT.out HJ.out j (j - 1) (by omega) (by omega)
          rw [show (((j - 1 : Nat) : Int)) = (j : Int) - 1 by omega] at hL
          have HSW := Lib.hid (fun W2 h2 => hs W2 dj h2 HJ.out j (j - 1) (by omega) (by omega))
          rw [show (((j - 1 : Nat) : Int)) = (j : Int) - 1 by omega] at HSW
          cases hlv : lt dj[j]! dj[j - 1]! with
          | true =>
            rw [hlv] at hL
            have HL := Lib.hid hL
            clear hL
            go_wp2_with (first
              | (go_at_fn gl; refine HL.out.mono ?_; rintro e w' ⟨rfl, hb1⟩; have HT1 := Aside0.mk (HT.out.below hb1); clear hb1)
              | (go_at_fn gs; refine (HSW.out _ HT1.out).mono ?_; rintro e w' ⟨rfl, hs2⟩; have HT2 := Aside0.mk hs2; clear hs2))
            go_roundw
            case rel => exact ⟨j - 1, swp dj j (j - 1), by congr 1 <;> omega, by omega, by omega, Lib.hid (by rw [swp_size]; exact HJ.out), HT2, Lib.hid (by rw [← HI.out, inner_go lt a j dj hja hlv])⟩
            case measure => simp [intOf]; omega
          | false =>
            rw [hlv] at hL
            have HL := Lib.hid hL
            clear hL
            go_wp2_with (go_at_fn gl; refine HL.out.mono ?_; rintro e w' ⟨rfl, hb1⟩; have HT1 := Aside0.mk (HT.out.below hb1); clear hb1)
            go_roundw
            case rel => exact OUT.out (Or.inr hlv) _ HT1.out
            case measure => simp [intOf]; omega
        · go_wp2
          go_roundw
          case rel => exact OUT.out (Or.inl (by omega)) _ HT.out
          case measure => simp [intOf]; omega
    · have hge := Lib.hid hlt
      have d1 : decide (i < b) = false := decide_eq_false hlt
      clear hlt
      go_wp2
      go_end0
      exact ⟨rfl, by unfold insertionSort; rw [← HO.out, outer_stop lt _ _ _ _ hge.out]; exact HS.out⟩
end Go.Proofs.YtgoeiflddikihaaGreatDoor.Srt
end
section
namespace Go.Proofs.YtgoeiflddikihaaGreatDoor.Ver
set_option linter.unusedSimpArgs false
set_option linter.unusedVariables false
open Go.RowKit Go.Proofs.YtgoeiflddikihaaGreatDoor.PFnIntersectAny Go.Proofs.YtgoeiflddikihaaGreatDoorW.PrintWords
theorem split_loop (s sep : ByteArray) (hs : s.size ≤ 1000000000000) (h1 : 1 ≤ sep.size) (h2 : sep.size ≤ 1000) (hno : ∀ j, j + sep.size ≤ s.size → (s.extract j (j + sep.size)).toList ≠ sep.toList) (d : Nat) :
    ∀ j : Nat, j ≤ s.size → s.size - j = d → ∀ n, d < n → semver_split.l0 n s sep [] 0 (j : Int) = some [s] := by
  induction d with
  | zero =>
    intro j hj hd n hn
    obtain ⟨n, rfl⟩ : ∃ i, n = i + 1 := ⟨n - 1, by omega⟩
    have w1 : wrap64 ((j : Int) + (sep.size : Int)) = ((j + sep.size : Nat) : Int) := by rw [wrap_in (by omega) (by omega)]; omega
    rw [semver_split.l0, w1, if_neg (by omega), if_pos (by decide), if_pos (by omega), if_pos (by simp)]
    simp
  | succ d ih =>
    intro j hj hd n hn
    obtain ⟨n, rfl⟩ : ∃ i, n = i + 1 := ⟨n - 1, by omega⟩
    have w1 : wrap64 ((j : Int) + (sep.size : Int)) = ((j + sep.size : Nat) : Int) := by rw [wrap_in (by omega) (by omega)]; omega
    have w2 : wrap64 ((j : Int) + 1) = ((j + 1 : Nat) : Int) := by rw [wrap_in (by omega) (by omega)]; omega
    by_cases hc : j + sep.size ≤ s.size
    · rw [semver_split.l0, w1, if_pos (by omega), if_pos (by omega), if_pos (by omega), Int.toNat_natCast, Int.toNat_natCast, if_neg (hno j hc), w2]
      exact ih (j + 1) (by omega) (by omega) n (by omega)
    · rw [semver_split.l0, w1, if_neg (by omega), if_pos (by decide), if_pos (by omega), if_pos (by simp)]
      simp
theorem split_one (s sep : ByteArray) (hs : s.size ≤ 1000000000000) (h1 : 1 ≤ sep.size) (h2 : sep.size ≤ 1000) (hno : ∀ j, j + sep.size ≤ s.size → (s.extract j (j + sep.size)).toList ≠ sep.toList) : semver_split.f (s.size + 1) s sep = some [s] := by
  rw [semver_split.f]
  exact split_loop s sep hs h1 h2 hno s.size 0 (Nat.zero_le _) (by omega) _ (by omega)
theorem no_piece {s sep : ByteArray} {c : UInt8} (h1 : 1 ≤ sep.size) (hc : sep.toList.head? = some c) (hn : c ∉ s.data.toList) : ∀ j, j + sep.size ≤ s.size → (s.extract j (j + sep.size)).toList ≠ sep.toList := by
  intro j hj e
  apply hn
  have hm : c ∈ (s.extract j (j + sep.size)).toList := by
    rw [e]
    cases hl : sep.toList with
    | nil => rw [hl] at hc; cases hc
    | cons a r => rw [hl] at hc; simp at hc; subst hc; exact List.mem_cons_self
  rw [ByteArray.toList_eq] at hm
  have : (s.extract j (j + sep.size)).data.toList = (s.data.toList.drop j).take sep.size := by
    simp [List.take_drop]
  rw [this] at hm
  exact List.mem_of_mem_drop (List.mem_of_mem_take hm)
end Go.Proofs.YtgoeiflddikihaaGreatDoor.Ver
end
section
namespace Go.Proofs.YtgoeiflddikihaaGreatDoor.Ver
set_option linter.unusedSimpArgs false
set_option linter.unusedVariables false
open Go.RowKit Go.Proofs.YtgoeiflddikihaaGreatDoor.PFnVersion Go.Proofs.YtgoeiflddikihaaGreatDoorW.PrintWords
theorem plainM_tells (s : ByteArray) (hn : s.size ≤ 140737488351232) (m : Nat) (hm : m ≤ 1000) (d : Nat) : ∀ i, i ≤ s.size → s.size - i = d → ∃ b k0, (∀ k, k0 ≤ k → spec_VerPlain.l0 k s (m : Int) (i : Int) = some b) ∧ (b = true → 0 < s.size ∧ s.size ≤ m ∧ ∀ j : Nat, i ≤ j → j < s.size → 33 ≤ bt s (j : Int) ∧ bt s (j : Int) ≤ 126) := by
  have last : ∀ i : Nat, s.size ≤ i ∨ m < i → ∃ b k0, (∀ k, k0 ≤ k → spec_VerPlain.l0 k s (m : Int) (i : Int) = some b) ∧ (b = true → 0 < s.size ∧ s.size ≤ m ∧ ∀ j : Nat, i ≤ j → j < s.size → 33 ≤ bt s (j : Int) ∧ bt s (j : Int) ≤ 126) := by
    intro i hi
    refine ⟨if 0 < s.size then decide (s.size ≤ m) else false, 2, fun k hk => ?_, fun hb => ?_⟩
    · obtain ⟨k, rfl⟩ : ∃ j, k = j + 2 := ⟨k - 2, by omega⟩
      have e : spec_VerPlain.j1 (k + 1) s (m : Int) (i : Int) false = some (if 0 < s.size then decide (s.size ≤ m) else false) := by
        rw [spec_VerPlain.j1, if_neg (by decide)]
        by_cases h : 0 < s.size
        · rw [if_pos (by omega), if_pos h]; congr 1; simp only [decide_eq_decide]; omega
        · rw [if_neg (by omega), if_neg h]
      rw [spec_VerPlain.l0]
      by_cases h : (i : Int) < (s.size : Int)
      · rw [if_pos h, decide_eq_false (by omega)]; exact e
      · rw [if_neg h]; exact e
    · split at hb
      · have h2 := of_decide_eq_true hb
        exact ⟨by assumption, h2, fun j h3 h4 => by omega⟩
      · cases hb
  induction d with
  | zero => intro i hi hd; exact last i (Or.inl (by omega))
  | succ d ih =>
    intro i hi hd
    by_cases h60 : m < i
    · exact last i (Or.inr h60)
    · obtain ⟨b, k0, h1, h2⟩ := ih (i + 1) (by omega) (by omega)
      have w1 : wrap64 ((i : Int) + 1) = ((i + 1 : Nat) : Int) := by rw [wrap_in (by omega) (by omega)]; omega
      by_cases hc : bt s (i : Int) < 33 ∨ bt s (i : Int) > 126
      · refine ⟨false, 2, fun k hk => ?_, fun hb => by cases hb⟩
        obtain ⟨k, rfl⟩ : ∃ j, k = j + 2 := ⟨k - 2, by omega⟩
        rw [spec_VerPlain.l0, if_pos (by omega), decide_eq_true (by omega), spec_VerPlain.j1, if_pos rfl, if_pos (by omega), if_pos (by omega)]
        by_cases hx : bt s (i : Int) < 33
        · rw [if_pos hx]
        · rw [if_neg hx, if_pos (by omega)]
      · refine ⟨b, k0 + 2, fun k hk => ?_, fun hb => ?_⟩
        · obtain ⟨k, rfl⟩ : ∃ j, k = j + 2 := ⟨k - 2, by omega⟩
          rw [spec_VerPlain.l0, if_pos (by omega), decide_eq_true (by omega), spec_VerPlain.j1, if_pos rfl, if_pos (by omega), if_pos (by omega), if_neg (by omega), if_neg (by omega), w1]
          exact h1 k (by omega)
        · obtain ⟨q1, q2, q3⟩ := h2 hb
          refine ⟨q1, q2, fun j h3 h4 => ?_⟩
          by_cases hj : j = i
          · subst hj; clear w1; omega
          · exact q3 j (by clear w1; omega) h4
theorem plainM (s : ByteArray) (hn : s.size ≤ 140737488351232) (m : Nat) (hm : m ≤ 1000) : ∃ b, (b = true → 0 < s.size ∧ s.size ≤ m ∧ ∀ c ∈ s.data.toList, 33 ≤ c.toNat ∧ c.toNat ≤ 126) ∧ ∀ w, Calls Tryz.prog 33 #[.string s, .int .i64 (m : Int)] w fun e w' => e = .returned (.bool b) ∧ Drawn0 w w' := by
  obtain ⟨b, k0, h1, h2⟩ := plainM_tells s hn m hm s.size 0 (by omega) (by omega)
  refine ⟨b, fun hb => ?_, fun w => spec_VerPlain.calls k0 s m b w (h1 k0 (Nat.le_refl _))⟩
  obtain ⟨q1, q2, q3⟩ := h2 hb
  refine ⟨q1, q2, fun c hc => ?_⟩
  obtain ⟨i, hi, rfl⟩ := List.getElem_of_mem hc
  have hi' : i < s.size := by rw [Array.length_toList] at hi; exact hi
  have := q3 i (Nat.zero_le _) hi'
  have e : bt s (i : Int) = ((s.data.toList[i].toNat : Nat) : Int) := by
    unfold bt
    rw [Int.toNat_natCast, dif_pos hi']
    rfl
  rw [e] at this
  omega
end Go.Proofs.YtgoeiflddikihaaGreatDoor.Ver
end
