/- Merged by program out of: VId, SemP, SemO, SemE, VCp, ConA, SortP. -/
import Derived.Test.YtgoeiflddikihaaGreatDoorCsgM6
import Derived.Test.YtgoeiflddikihaaGreatDoorCsgM8
import Derived.Test.YtgoeiflddikihaaGreatDoorCsgM7
import Derived.Test.YtgoeiflddikihaaGreatDoorCsgM9
import Derived.WalkLawsBesides
import Derived.Deep.QuietTactic
import Derived.BigQuiet
import Derived.Test.YtgoeiflddikihaaGreatDoorCsgM3
section
namespace Go.Proofs.YtgoeiflddikihaaGreatDoor.Ver
open Go.RowKit Go.Proofs.YtgoeiflddikihaaGreatDoorW.PrintWords Go.Proofs.YtgoeiflddikihaaGreatDoor.Ord
theorem ba_eq {a b : ByteArray} (h : a.data.toList = b.data.toList) : a = b := ByteArray.ext (Array.ext' h)
theorem len_list (s : ByteArray) : s.data.toList.length = s.size := Array.length_toList
theorem extract_pre (s : ByteArray) (i : Nat) : (s.extract 0 i).data.toList = s.data.toList.take i := by
  rw [ByteArray.data_extract, Array.toList_extract]; simp [List.extract_eq_take_drop]
theorem extract_suf (s : ByteArray) (i : Nat) : (s.extract i s.size).data.toList = s.data.toList.drop i := by
  rw [ByteArray.data_extract, Array.toList_extract]
  simp only [List.extract_eq_take_drop]
  rw [List.take_of_length_le (by rw [List.length_drop, len_list]; exact Nat.le_refl _)]
def firstB (s : ByteArray) : ByteArray := ⟨(firstI s.data.toList).toArray⟩
def restB (s : ByteArray) : ByteArray := ⟨(restI s.data.toList).toArray⟩
def bareB (s : ByteArray) : ByteArray := ⟨(bareZ s.data.toList).toArray⟩
theorem firstI_at {l : List UInt8} {i : Nat} (hi : i < l.length) (h0 : ∀ c ∈ l.take i, c ≠ 46) (hc : l[i] = 46) : firstI l = l.take i ∧ restI l = l.drop (i + 1) := by
  have e : l = l.take i ++ 46 :: l.drop (i + 1) := by rw [← hc, ← List.drop_eq_getElem_cons hi, List.take_append_drop]
  have h1 : ∀ c ∈ l.take i, (c != 46) = true := fun c h => by rw [bne_iff_ne]; exact h0 c h
  refine ⟨?_, ?_⟩
  · unfold firstI
    conv => lhs; rw [e]
    rw [List.takeWhile_append_of_pos h1]; simp
  · unfold restI
    conv => lhs; rw [e]
    rw [List.dropWhile_append_of_pos h1]; simp
theorem firstI_all {l : List UInt8} (h0 : ∀ c ∈ l, c ≠ 46) : firstI l = l ∧ restI l = [] := by
  have h1 : ∀ c ∈ l, (c != 46) = true := fun c h => by rw [bne_iff_ne]; exact h0 c h
  refine ⟨?_, ?_⟩
  · unfold firstI
    have := List.takeWhile_append_of_pos (l₂ := []) h1
    simpa using this
  · unfold restI
    have := List.dropWhile_append_of_pos (l₂ := []) h1
    rw [List.append_nil] at this
    rw [this]; rfl
theorem take_more {l : List UInt8} {i : Nat} (hi : i < l.length) (h0 : ∀ c ∈ l.take i, c ≠ 46) (hc : l[i] ≠ 46) : ∀ c ∈ l.take (i + 1), c ≠ 46 := by
  intro c h
  rw [List.take_succ_eq_append_getElem hi, List.mem_append, List.mem_singleton] at h
  rcases h with h | h
  · exact h0 c h
  · rw [h]; exact hc
theorem byte_int {c : UInt8} {n : Nat} (hn : n < 256) : ((c.toNat : Int) = (n : Int)) ↔ c = UInt8.ofNat n := by
  constructor
  · intro h
    apply UInt8.toNat_inj.1
    rw [UInt8.toNat_ofNat']; omega
  · rintro rfl
    rw [UInt8.toNat_ofNat']; omega
theorem first_tells (s : ByteArray) (hn : s.size ≤ 140737488351232) (d : Nat) : ∀ (k i : Nat), i ≤ s.size → s.size - i = d → d < k → (∀ c ∈ s.data.toList.take i, c ≠ 46) →
    Pfirst.semver_first.l0 k s (i : Int) = some (firstB s, restB s) := by
  induction d with
  | zero =>
    intro k i hi hd hk h0
    cases k with
    | zero => omega
    | succ k =>
      rw [Pfirst.semver_first.l0, if_neg (by omega)]
      rw [List.take_of_length_le (by rw [len_list]; omega)] at h0
      obtain ⟨e1, e2⟩ := firstI_all h0
      unfold firstB restB
      rw [e1, e2]
  | succ d ih =>
    intro k i hi hd hk h0
    have hlt : i < s.size := by omega
    have hll : i < s.data.toList.length := by rw [len_list]; exact hlt
    have hget : s.data.toList[i] = s[i] := rfl
    cases k with
    | zero => omega
    | succ k =>
      have w1 : wrap64 ((i : Int) + 1) = ((i + 1 : Nat) : Int) := by rw [wrap_in (by omega) (by omega)]; omega
      rw [Pfirst.semver_first.l0, if_pos (by omega), if_pos (by omega), bt_nat s i hlt, w1]
      by_cases hc : s[i] = 46
      · rw [if_pos (by rw [hc]; rfl), if_pos (by omega), if_pos (by omega), if_pos (by omega)]
        obtain ⟨e1, e2⟩ := firstI_at hll h0 (hget.trans hc)
        unfold firstB restB
        rw [e1, e2]
        congr 2
        · apply ba_eq; rw [Int.toNat_natCast, extract_pre]
        · apply ba_eq; rw [Int.toNat_natCast, extract_suf]
      · have hne : ¬ ((s[i].toNat : Int) = 46) := fun h => hc ((byte_int (n := 46) (by omega)).1 h)
        rw [if_neg hne]
        exact ih k (i + 1) (by omega) (by omega) (by omega) (take_more hll h0 (fun h => hc (hget.symm.trans h)))
theorem first_any (s : ByteArray) (hn : s.size ≤ 140737488351232) (w : World) :
    Calls Tryz.prog 210 #[.string s] w fun e w' => e = .returned (.tuple #[.string (firstB s), .string (restB s)]) ∧ ∃ n, w' = w.drewN n :=
  (Pfirst.semver_first.calls (s.size + 1) s _ _ w (first_tells s hn s.size (s.size + 1) 0 (by omega) (by omega) (by omega) (by simp))).mono fun _ _ ⟨h, hd⟩ => ⟨h, hd.out⟩
theorem number_tells (s : ByteArray) (hn : s.size ≤ 140737488351232) (d : Nat) : ∀ (k i : Nat), i ≤ s.size → s.size - i = d → d < k →
    Pcompare.semver_number.l0 k s (i : Int) = some (!s.data.toList.isEmpty && (s.data.toList.drop i).all Ord.isDig) := by
  induction d with
  | zero =>
    intro k i hi hd hk
    cases k with
    | zero => omega
    | succ k =>
      rw [Pcompare.semver_number.l0, if_neg (by omega), List.drop_eq_nil_of_le (by rw [len_list]; omega), ByteArray.toList_eq]
      cases s.data.toList <;> rfl
  | succ d ih =>
    intro k i hi hd hk
    have hlt : i < s.size := by omega
    have hne : s.data.toList.isEmpty = false := by
      have := drop_at s i hlt
      cases h : s.data.toList with
      | nil => rw [h] at this; simp at this
      | cons => rfl
    cases k with
    | zero => omega
    | succ k =>
      have w1 : wrap64 ((i : Int) + 1) = ((i + 1 : Nat) : Int) := by rw [wrap_in (by omega) (by omega)]; omega
      rw [Pcompare.semver_number.l0, if_pos (by omega), if_pos (by omega), bt_nat s i hlt, w1, drop_at s i hlt, List.all_cons]
      have e1 := ih k (i + 1) (by omega) (by omega) (by omega)
      unfold Ord.isDig at *
      by_cases h1 : s[i].toNat < 48
      · rw [if_pos (by omega), decide_eq_false (by omega)]; simp
      · rw [if_neg (by omega)]
        by_cases h2 : s[i].toNat ≤ 57
        · rw [if_neg (by omega), e1, decide_eq_true (by omega : 48 ≤ s[i].toNat), decide_eq_true h2]; simp
        · rw [if_pos (by omega), decide_eq_false h2]; simp
theorem number_any (s : ByteArray) (hn : s.size ≤ 140737488351232) (w : World) :
    Calls Tryz.prog 212 #[.string s] w fun e w' => e = .returned (.bool (idNum s.data.toList)) ∧ ∃ n, w' = w.drewN n :=
  (Pcompare.semver_number.calls (s.size + 1) s _ w (number_tells s hn s.size (s.size + 1) 0 (by omega) (by omega) (by omega))).mono fun _ _ ⟨h, hd⟩ => ⟨h, hd.out⟩
theorem bare_tells (d : Nat) : ∀ (s : ByteArray) (k : Nat), s.size = d → d < k → Pcompare.semver_bare.l0 k s = some (bareB s) := by
  induction d with
  | zero =>
    intro s k hd hk
    cases k with
    | zero => omega
    | succ k =>
      rw [Pcompare.semver_bare.l0, if_neg (by omega)]
      congr 1
      apply ba_eq
      have : s.data.toList = [] := List.length_eq_zero_iff.1 (by rw [len_list]; exact hd)
      unfold bareB; rw [this]; rfl
  | succ d ih =>
    intro s k hd hk
    cases k with
    | zero => omega
    | succ k =>
      have e0 := drop_at s 0 (by omega)
      rw [List.drop_zero] at e0
      rw [Pcompare.semver_bare.l0]
      by_cases h1 : 1 < s.size
      · have e1 := drop_at s 1 h1
        rw [if_pos (by omega), if_pos (by omega), show ((0 : Int)) = ((0 : Nat) : Int) from rfl, bt_nat s 0 (by omega)]
        by_cases hc : s[0] = 48
        · rw [if_pos (by rw [hc]; rfl), if_pos (by omega), ih (s.extract 1 s.size) k (by rw [ByteArray.size_extract]; omega) (by omega)]
          congr 1
          apply ba_eq
          unfold bareB
          show bareZ (s.extract 1 s.size).data.toList = bareZ s.data.toList
          rw [extract_suf]
          conv => rhs; rw [e0, e1, hc]
          rw [e1]
          rfl
        · have hne : ¬ ((s[0].toNat : Int) = 48) := fun h => hc ((byte_int (n := 48) (by omega)).1 h)
          rw [if_neg hne]
          congr 1
          apply ba_eq
          unfold bareB
          show _ = bareZ s.data.toList
          rw [e0, e1]
          simp only [bareZ]
          rw [if_neg hc]
      · rw [if_neg (by omega)]
        congr 1
        apply ba_eq
        unfold bareB
        show _ = bareZ s.data.toList
        rw [e0, List.drop_eq_nil_of_le (by rw [len_list]; omega)]
        rfl
theorem bare_any (s : ByteArray) (w : World) :
    Calls Tryz.prog 213 #[.string s] w fun e w' => e = .returned (.string (bareB s)) ∧ ∃ n, w' = w.drewN n :=
  (Pcompare.semver_bare.calls (s.size + 1) s _ w (bare_tells s.size s (s.size + 1) rfl (by omega))).mono fun _ _ ⟨h, hd⟩ => ⟨h, hd.out⟩
end Go.Proofs.YtgoeiflddikihaaGreatDoor.Ver
end
section
namespace Go.Proofs.YtgoeiflddikihaaGreatDoor.Ver
open Go.RowKit Go.Proofs.YtgoeiflddikihaaGreatDoor.Dig Go.Proofs.YtgoeiflddikihaaGreatDoorW.PrintWords
def qSplitOn (c : UInt8) : List UInt8 → List (List UInt8)
 | [] => [[]]
 | x :: r => if x = c then [] :: qSplitOn c r else match qSplitOn c r with
  | h :: t => (x :: h) :: t
  | [] => [[x]]
def qCutAt (c : UInt8) : List UInt8 → List UInt8 × Option (List UInt8)
 | [] => ([], none)
 | x :: r => if x = c then ([], some r) else ((x :: (qCutAt c r).1), (qCutAt c r).2)
def qIdentsB (l : List UInt8) : Bool := (qSplitOn 46 l).all fun x => !x.isEmpty && x.all isId
def qNumB (l : List UInt8) : Option Nat := match Lib.parseUintB 64 l with
 | .ok u => some u
 | _ => none
def qNumsB : List (List UInt8) → Option (List Nat)
 | [] => some []
 | x :: r => match qNumB x, qNumsB r with
  | some a, some b => some (a :: b)
  | _, _ => none
def qOptB : Option (List UInt8) → Option (List UInt8)
 | none => some []
 | some p => if qIdentsB p then some p else none
def qSemB0 (l : List UInt8) : Option (List Nat × List UInt8 × List UInt8) :=
 let a := qCutAt 43 (bare0 l)
 match qOptB a.2 with
 | none => none
 | some mt =>
  let b := qCutAt 45 a.1
  match qOptB b.2 with
  | none => none
  | some pre =>
   let ps := qSplitOn 46 b.1
   if 3 < ps.length then none else match qNumsB ps with
    | none => none
    | some ns => some (ns, pre, mt)
theorem qSplitOn_ne (c : UInt8) : ∀ l, qSplitOn c l ≠ []
 | [] => by simp [qSplitOn]
 | x :: r => by
  unfold qSplitOn
  split
  ·simp
  ·split <;> simp
theorem qSplitOn_cons {c x : UInt8} {r : List UInt8} (h : x ≠ c) : ∃ p q, qSplitOn c r = p :: q ∧ qSplitOn c (x :: r) = (x :: p) :: q := by
 cases e : qSplitOn c r with
 | nil => exact absurd e (qSplitOn_ne c r)
 | cons p q => exact ⟨p, q, rfl, by rw [qSplitOn, if_neg h, e]⟩
def qIdAll : List UInt8 → Bool → Bool
 | [], p => p
 | c :: r, p => if isId c then qIdAll r true else if c = 46 ∧ p then qIdAll r false else false
theorem qDot_not_id : isId 46 = false := by decide
theorem qIdAll_split : ∀ (l : List UInt8) (p : Bool), qIdAll l p = (match qSplitOn 46 l with
  | h :: t => (p || !h.isEmpty) && h.all isId && t.all (fun x => !x.isEmpty && x.all isId)
  | [] => false)
 | [], p => by simp [qIdAll, qSplitOn]
 | c :: r, p => by
  by_cases hc : c = 46
  ·subst hc
   rw [qIdAll, qDot_not_id, qSplitOn, if_pos rfl]
   have ih := qIdAll_split r false
   cases p with
   | false => simp
   | true =>
    simp only [and_self, if_true]
    rw [ih]
    cases e : qSplitOn 46 r with
    | nil => exact absurd e (qSplitOn_ne _ _)
    | cons h t => simp [Bool.and_assoc]
  ·obtain ⟨h, t, e1, e2⟩ := qSplitOn_cons (r := r) hc
   rw [qIdAll, e2]
   have ih := qIdAll_split r true
   rw [e1] at ih
   by_cases hi : isId c = true
   ·rw [if_pos hi, ih]; simp [hi]
   ·rw [if_neg hi, if_neg (fun x => hc x.1)]; simp [hi]
theorem qIdentsB_idAll (l : List UInt8) : qIdentsB l = qIdAll l false := by
 rw [qIdAll_split, qIdentsB]
 cases e : qSplitOn 46 l with
 | nil => exact absurd e (qSplitOn_ne _ _)
 | cons h t => simp
theorem qNat46 (c : UInt8) : (c.toNat = 46) ↔ c = 46 := by
 constructor
 ·intro h; exact UInt8.toNat_inj.1 (by rw [h]; rfl)
 ·rintro rfl; rfl
def qStops : List UInt8 → Bool
 | [] => true
 | c :: _ => !isId c && c != 46
theorem qIdentGo_app (t : List UInt8) (ht : qStops t = true) : ∀ (l : List UInt8) (i n p : Nat), identGo (l ++ t) i n p = identGo l i n p
 | [], i, n, p => by
  cases t with
  | nil => rfl
  | cons c r =>
   simp [qStops] at ht
   simp only [List.nil_append, identGo, ht.1, qNat46, ht.2]; simp
 | c :: l, i, n, p => by
  rw [List.cons_append, identGo, identGo, qIdentGo_app t ht l, qIdentGo_app t ht l]
theorem qIdentGo_bound : ∀ (l : List UInt8) (i n p : Nat), n ≤ i → identGo l i n p ≤ i + l.length
 | [], i, n, p, h => by simp [identGo]; omega
 | c :: r, i, n, p, h => by
  simp only [identGo, List.length_cons]
  split
  ·have := qIdentGo_bound r (i + 1) (i + 1) (p + 1) (by omega); omega
  ·split
   ·have := qIdentGo_bound r (i + 1) n 0 (by omega); omega
   ·omega
theorem qIdentGo_all : ∀ (l : List UInt8) (i n p : Nat), n ≤ i → (0 < p ↔ n = i ∧ 0 < i) → (l ≠ [] ∨ 0 < i) → ((identGo l i n p = i + l.length) ↔ qIdAll l (decide (0 < p)) = true)
 | [], i, n, p, h, hp, h0 => by
  simp only [identGo, qIdAll, List.length_nil, Nat.add_zero, decide_eq_true_eq]
  rcases h0 with h0 | h0
  ·exact absurd rfl h0
  ·constructor
   ·intro e; exact hp.2 ⟨e, h0⟩
   ·intro e; exact (hp.1 e).1
 | c :: r, i, n, p, h, hp, h0 => by
  simp only [identGo, qIdAll, List.length_cons]
  by_cases hi : isId c = true
  ·rw [if_pos hi, if_pos hi]
   have ih := qIdentGo_all r (i + 1) (i + 1) (p + 1) (Nat.le_refl _) (by omega) (Or.inr (by omega))
   rw [show decide (0 < p + 1) = true from by simp] at ih
   rw [← ih]; omega
  ·rw [if_neg hi, if_neg hi]
   simp only [qNat46, decide_eq_true_eq]
   by_cases hd : c = 46 ∧ 0 < p
   ·rw [if_pos hd, if_pos hd]
    have ih := qIdentGo_all r (i + 1) n 0 (by omega) (by omega) (Or.inr (by omega))
    rw [show decide (0 < 0) = false from rfl] at ih
    rw [← ih]; omega
   ·rw [if_neg hd, if_neg hd]
    simp; omega
theorem qIdentN_all (l : List UInt8) : (l ≠ [] ∧ identN l = l.length) ↔ qIdentsB l = true := by
 rw [qIdentsB_idAll]
 cases l with
 | nil => simp [qIdAll]
 | cons c r =>
  have := qIdentGo_all (c :: r) 0 0 0 (Nat.le_refl _) (by omega) (Or.inl (by simp))
  rw [Nat.zero_add] at this
  simp only [ne_eq, reduceCtorEq, not_false_eq_true, true_and]
  exact this
theorem qPart_some {c : UInt8} {p t : List UInt8} (ht : qStops t = true) (h : qIdentsB p = true) : part c (c :: (p ++ t)) = some (p, t) := by
 obtain ⟨hne, hn⟩ := (qIdentN_all p).2 h
 have e : identN (p ++ t) = p.length := by rw [← hn]; exact qIdentGo_app t ht p 0 0 0
 have hl : p.length ≠ 0 := fun x => hne (List.length_eq_zero_iff.1 x)
 rw [part, if_pos rfl, e, if_neg hl, List.take_left, List.drop_left]
theorem qPart_bad {c : UInt8} {p t : List UInt8} (ht : qStops t = true) (h : qIdentsB p = false) :
  part c (c :: (p ++ t)) = none ∨ ∃ q x r, part c (c :: (p ++ t)) = some (q, x :: r ++ t) ∧ x :: r <:+ p := by
 have e : identN (p ++ t) = identN p := qIdentGo_app t ht p 0 0 0
 rw [part, if_pos rfl, e]
 by_cases h0 : identN p = 0
 ·left; rw [if_pos h0]
 ·right
  rw [if_neg h0]
  have hle : identN p ≤ p.length := by have := qIdentGo_bound p 0 0 0 (Nat.le_refl _); unfold identN; omega
  have hlt : identN p < p.length := by
   rcases Nat.lt_or_eq_of_le hle with h1 | h1
   ·exact h1
   ·exfalso
    have : qIdentsB p = true := (qIdentN_all p).1 ⟨fun x => by subst x; simp [identN, identGo] at h0, h1⟩
    rw [h] at this; cases this
  rw [List.drop_append_of_le_length hle]
  cases e2 : p.drop (identN p) with
  | nil => rw [List.drop_eq_nil_iff] at e2; omega
  | cons x r => exact ⟨_, x, r, rfl, by rw [← e2]; exact List.drop_suffix _ _⟩
theorem qCutAt_none : ∀ {c : UInt8} {l a : List UInt8}, qCutAt c l = (a, none) → a = l ∧ c ∉ l
 | c, [], a, h => by simp [qCutAt] at h; simp [h]
 | c, x :: r, a, h => by
  rw [qCutAt] at h
  split at h
  ·simp at h
  ·rename_i hx
   simp only [Prod.mk.injEq] at h
   have ih := qCutAt_none (c := c) (l := r) (a := (qCutAt c r).1) (by rw [← h.2])
   rw [← h.1, ih.1]
   exact ⟨rfl, by simp [ih.2, Ne.symm hx]⟩
theorem qCutAt_some : ∀ {c : UInt8} {l a b : List UInt8}, qCutAt c l = (a, some b) → l = a ++ c :: b ∧ c ∉ a
 | c, [], a, b, h => by simp [qCutAt] at h
 | c, x :: r, a, b, h => by
  rw [qCutAt] at h
  split at h
  ·rename_i hx
   simp only [Prod.mk.injEq, Option.some.injEq] at h
   rw [← h.1, ← h.2, hx]; simp
  ·rename_i hx
   simp only [Prod.mk.injEq] at h
   have ih := qCutAt_some (c := c) (l := r) (a := (qCutAt c r).1) (b := b) (by rw [← h.2])
   rw [← h.1]
   exact ⟨by rw [List.cons_append, ← ih.1], by simp [ih.2, Ne.symm hx]⟩
def qNoDig : List UInt8 → Bool
 | [] => true
 | c :: _ => !isDig c && c != 46
theorem qDigN_len : ∀ l : List UInt8, digN l ≤ l.length
 | [] => Nat.le_refl _
 | c :: r => by
  simp only [digN, List.length_cons]
  have := qDigN_len r
  split <;> omega
theorem qDigN_all : ∀ l : List UInt8, digN l = l.length ↔ l.all isDig = true
 | [] => by simp [digN]
 | c :: r => by
  have ih := qDigN_all r
  simp only [digN, List.length_cons, List.all_cons, Bool.and_eq_true]
  by_cases h : isDig c = true
  ·rw [if_pos h]; simp [h, ← ih]
  ·rw [if_neg h]; simp [h]
theorem parseM_dig : ∀ {M acc : Nat} {l : List UInt8} {u : Nat}, Lib.parseUintM M acc l = .ok u → l.all isDig = true
 | _, _, [], _, _ => rfl
 | M, acc, c :: r, u, h => by
  rw [Lib.parseUintM] at h
  split at h
  ·rename_i hc
   split at h
   ·cases h
   ·split at h
    ·cases h
    ·rw [List.all_cons, parseM_dig h]; simp [isDig, hc.1, hc.2]
  ·cases h
theorem qNumB_some {l : List UInt8} {u : Nat} (h : qNumB l = some u) : Lib.parseUintB 64 l = .ok u ∧ l ≠ [] ∧ l.all isDig = true := by
 unfold qNumB at h
 split at h
 ·rename_i x hx
  simp at h; subst h
  refine ⟨hx, ?_⟩
  unfold Lib.parseUintB at hx
  split at hx
  ·cases hx
  ·rename_i hne; exact ⟨hne, parseM_dig hx⟩
 ·cases h
theorem qNumOf_app {x t : List UInt8} (ht : t = [] ∨ ∃ c r, t = c :: r ∧ isDig c = false) :
  (∀ u, qNumB x = some u → numOf (x ++ t) = some (u, t)) ∧ (qNumB x = none → (∀ c r, x = c :: r → True) → numOf (x ++ t) = none ∨ ∃ a y r, numOf (x ++ t) = some (a, y :: r ++ t) ∧ isDig y = false ∧ y :: r <:+ x) := by
 have hd : digN (x ++ t) = digN x := by
  have : ∀ l, digN (l ++ t) = digN l := by
   intro l
   induction l with
   | nil =>
    rcases ht with rfl | ⟨c, r, rfl, hc⟩
    ·rfl
    ·simp [digN, hc]
   | cons c l ih => rw [List.cons_append, digN, digN, ih]
  exact this x
 refine ⟨?_, ?_⟩
 ·intro u hu
  obtain ⟨h1, h2, h3⟩ := qNumB_some hu
  have e := (qDigN_all x).2 h3
  have hl : x.length ≠ 0 := fun y => h2 (List.length_eq_zero_iff.1 y)
  rw [numOf, hd, e, if_neg hl, List.take_left, h1, List.drop_left]
 ·intro hn _
  unfold numOf
  rw [hd]
  by_cases h0 : digN x = 0
  ·left; rw [if_pos h0]
  ·rw [if_neg h0]
   have hle := qDigN_len x
   rw [List.take_append_of_le_length hle, List.drop_append_of_le_length hle]
   by_cases he : digN x = x.length
   ·left
    rw [he, List.take_length]
    unfold qNumB at hn
    split at hn
    ·cases hn
    ·rename_i hx
     cases hq : Lib.parseUintB 64 x <;> first | rfl | exact absurd hq (hx _)
   ·cases e2 : x.drop (digN x) with
    | nil => rw [List.drop_eq_nil_iff] at e2; omega
    | cons y r =>
     have hy : isDig y = false := by
      have : ∀ (l : List UInt8), l.drop (digN l) = y :: r → isDig y = false := by
       intro l
       induction l with
       | nil => simp
       | cons c l ih =>
        intro h
        rw [digN] at h
        split at h
        ·exact ih (by simpa using h)
        ·rename_i hc
         simp at h
         rw [← h.1]; simpa using hc
      exact this x e2
     split
     ·right; exact ⟨_, y, r, rfl, hy, by rw [← e2]; exact List.drop_suffix _ _⟩
     ·left; rfl
theorem qSplitOn_first (c : UInt8) (l : List UInt8) : ∃ x, c ∉ x ∧ ((l = x ∧ qSplitOn c l = [x]) ∨ ∃ r, l = x ++ c :: r ∧ qSplitOn c l = x :: qSplitOn c r) := by
 induction l with
 | nil => exact ⟨[], by simp, Or.inl ⟨rfl, rfl⟩⟩
 | cons y l ih =>
  by_cases hy : y = c
  ·subst hy
   exact ⟨[], by simp, Or.inr ⟨l, rfl, by rw [qSplitOn, if_pos rfl]⟩⟩
  ·obtain ⟨x, hx, h⟩ := ih
   refine ⟨y :: x, by simp [hx, Ne.symm hy], ?_⟩
   rcases h with ⟨rfl, h⟩ | ⟨r, rfl, h⟩
   ·left; exact ⟨rfl, by rw [qSplitOn, if_neg hy, h]⟩
   ·right; exact ⟨r, rfl, by rw [qSplitOn, if_neg hy, h]⟩
theorem qNoDig_alt {t : List UInt8} (h : qNoDig t = true) : t = [] ∨ ∃ c r, t = c :: r ∧ isDig c = false := by
 cases t with
 | nil => exact Or.inl rfl
 | cons c r => simp [qNoDig] at h; exact Or.inr ⟨c, r, rfl, h.1⟩
theorem qNums_app (t : List UInt8) (ht : qNoDig t = true) : ∀ (m : Nat) (acc : List Nat) (l : List UInt8),
  (∀ ns, (qSplitOn 46 l).length ≤ m → qNumsB (qSplitOn 46 l) = some ns → nums m acc (l ++ t) = some (acc ++ ns, t)) ∧
  ((m < (qSplitOn 46 l).length ∨ qNumsB (qSplitOn 46 l) = none) → nums m acc (l ++ t) = none ∨ ∃ ns y r, nums m acc (l ++ t) = some (ns, y :: r ++ t) ∧ y :: r <:+ l)
 | 0, acc, l => by
  refine ⟨fun ns h _ => ?_, fun _ => Or.inl rfl⟩
  have := qSplitOn_ne 46 l
  cases e : qSplitOn 46 l with
  | nil => exact absurd e this
  | cons a b => rw [e] at h; simp at h
 | m + 1, acc, l => by
  obtain ⟨x, hx, h⟩ := qSplitOn_first 46 l
  rcases h with ⟨rfl, h⟩ | ⟨r, rfl, h⟩
  ·-- one number
   obtain ⟨h1, h2⟩ := qNumOf_app (x := l) (qNoDig_alt ht)
   have hg : goOn t = false := by
    cases t with
    | nil => rfl
    | cons c r => simp [qNoDig] at ht; simp [goOn, ht.2]
   rw [h]
   refine ⟨?_, ?_⟩
   ·intro ns _ hns
    simp only [qNumsB] at hns
    cases hn : qNumB l with
    | none => rw [hn] at hns; simp at hns
    | some u =>
     rw [hn] at hns
     simp at hns
     subst hns
     rw [nums, h1 u hn]
     simp [hg]
   ·intro hbad
    have hn : qNumB l = none := by
     rcases hbad with hb | hb
     ·simp at hb
     ·simp only [qNumsB] at hb
      cases hn : qNumB l with
      | none => rfl
      | some u => rw [hn] at hb; simp at hb
    rcases h2 hn (fun _ _ _ => trivial) with e | ⟨a, y, r, e, hy, hm⟩
    ·left; rw [nums, e]
    ·have hy46 : y ≠ 46 := by
      intro e46
      subst e46
      skip
      exact hx (hm.subset (by simp))
     right
     refine ⟨acc ++ [a], y, r, ?_, hm⟩
     rw [nums, e]
     simp [goOn, hy46]
  ·-- a number, a dot, more
   have hdot : (46 : UInt8) :: (r ++ t) = [] ∨ ∃ c r', (46 : UInt8) :: (r ++ t) = c :: r' ∧ isDig c = false := Or.inr ⟨46, r ++ t, rfl, by decide⟩
   obtain ⟨h1, h2⟩ := qNumOf_app (x := x) hdot
   have eapp : x ++ 46 :: r ++ t = x ++ 46 :: (r ++ t) := by simp
   rw [h, eapp]
   have ih := qNums_app t ht m
   refine ⟨?_, ?_⟩
   ·intro ns hlen hns
    simp only [qNumsB] at hns
    cases hn : qNumB x with
    | none => rw [hn] at hns; simp at hns
    | some u =>
     rw [hn] at hns
     cases hr : qNumsB (qSplitOn 46 r) with
     | none => rw [hr] at hns; simp at hns
     | some b =>
      rw [hr] at hns
      simp at hns
      subst hns
      have hlen' : (qSplitOn 46 r).length ≤ m := by simpa using hlen
      have hm0 : 0 < m := by
       cases e : qSplitOn 46 r with
       | nil => exact absurd e (qSplitOn_ne _ _)
       | cons a b => rw [e] at hlen'; simp at hlen'; omega
      rw [nums, h1 u hn]
      simp only [goOn, beq_self_eq_true, Bool.true_and, decide_eq_true_eq, if_pos hm0, List.drop_one, List.tail_cons]
      rw [(ih (acc ++ [u]) r).1 b hlen' hr]
      simp
   ·intro hbad
    cases hn : qNumB x with
    | none =>
     rcases h2 hn (fun _ _ _ => trivial) with e | ⟨a, y, q, e, hy, hm⟩
     ·left; rw [nums, e]
     ·have hy46 : y ≠ 46 := by
       intro e46
       subst e46
       skip
       exact hx (hm.subset (by simp))
      right
      refine ⟨acc ++ [a], y, q ++ 46 :: r, ?_, ?_⟩
      ·rw [nums, e]
       simp [goOn, hy46]
      ·skip
       obtain ⟨z, hz⟩ := hm
       exact ⟨z, by rw [← hz]; simp⟩
    | some u =>
     rw [nums, h1 u hn]
     by_cases hm0 : 0 < m
     ·simp only [goOn, beq_self_eq_true, Bool.true_and, decide_eq_true_eq, if_pos hm0, List.drop_one, List.tail_cons]
      have hb' : m < (qSplitOn 46 r).length ∨ qNumsB (qSplitOn 46 r) = none := by
       rcases hbad with hb | hb
       ·left; simpa using hb
       ·right
        simp only [qNumsB, hn] at hb
        cases hr : qNumsB (qSplitOn 46 r) with
        | none => rfl
        | some b => rw [hr] at hb; simp at hb
      rcases (ih (acc ++ [u]) r).2 hb' with e | ⟨ns, y, q, e, hm⟩
      ·left; exact e
      ·right
       refine ⟨ns, y, q, e, ?_⟩
       skip
       exact hm.trans ⟨x ++ [46], by simp⟩
     ·right
      have hm00 : m = 0 := by omega
      subst hm00
      refine ⟨acc ++ [u], 46, r, ?_, ?_⟩
      ·simp [goOn]
      ·exact ⟨x, rfl⟩
def qReadB (s : ByteArray) : Option (SV × Nat) := (qSemB0 s.data.toList).map fun (ns, pre, mt) => (⟨ns.getD 0 0, ns.getD 1 0, ns.getD 2 0, ⟨pre.toArray⟩, ⟨mt.toArray⟩, s⟩, ns.length)
theorem qPart_other {c x : UInt8} {r : List UInt8} (h : x ≠ c) : part c (x :: r) = some ([], x :: r) := by rw [part, if_neg h]
theorem readV_eq (s : ByteArray) : readV s = qReadB s := by
 unfold readV qReadB qSemB0
 generalize bare0 s.data.toList = l
 rcases ha : qCutAt 43 l with ⟨l1, om⟩
 rcases hb : qCutAt 45 l1 with ⟨l2, op⟩
 simp only [hb]
 -- what is behind the numbers
 have key : ∃ tm tp, (om = none ∧ tm = [] ∨ ∃ m, om = some m ∧ tm = 43 :: m) ∧ (op = none ∧ tp = [] ∨ ∃ p, op = some p ∧ tp = 45 :: p) ∧ l = l2 ++ (tp ++ tm) ∧ (43 : UInt8) ∉ l2 ++ tp ∧ (45 : UInt8) ∉ l2 := by
  have h1 : ∃ tm, (om = none ∧ tm = [] ∨ ∃ m, om = some m ∧ tm = 43 :: m) ∧ l = l1 ++ tm ∧ (43 : UInt8) ∉ l1 := by
   cases om with
   | none => obtain ⟨h1, h2⟩ := qCutAt_none ha; subst h1; exact ⟨[], Or.inl ⟨rfl, rfl⟩, by simp, h2⟩
   | some m => obtain ⟨h1, h2⟩ := qCutAt_some ha; exact ⟨43 :: m, Or.inr ⟨m, rfl, rfl⟩, h1, h2⟩
  obtain ⟨tm, hm1, hm2, hm3⟩ := h1
  have h2 : ∃ tp, (op = none ∧ tp = [] ∨ ∃ p, op = some p ∧ tp = 45 :: p) ∧ l1 = l2 ++ tp ∧ (45 : UInt8) ∉ l2 := by
   cases op with
   | none => obtain ⟨h1, h2⟩ := qCutAt_none hb; subst h1; exact ⟨[], Or.inl ⟨rfl, rfl⟩, by simp, h2⟩
   | some p => obtain ⟨h1, h2⟩ := qCutAt_some hb; exact ⟨45 :: p, Or.inr ⟨p, rfl, rfl⟩, h1, h2⟩
  obtain ⟨tp, hp1, hp2, hp3⟩ := h2
  exact ⟨tm, tp, hm1, hp1, by rw [hm2, hp2]; simp, by rw [← hp2]; exact hm3, hp3⟩
 obtain ⟨tm, tp, htm, htp, rfl, h43, h45⟩ := key
 clear ha hb
 have nd : qNoDig (tp ++ tm) = true := by
  rcases htp with ⟨_, rfl⟩ | ⟨p, _, rfl⟩
  ·rcases htm with ⟨_, rfl⟩ | ⟨m, _, rfl⟩
   ·rfl
   ·simp [qNoDig]; decide
  ·simp [qNoDig]; decide
 have stm : qStops tm = true := by
  rcases htm with ⟨_, rfl⟩ | ⟨m, _, rfl⟩
  ·rfl
  ·simp [qStops]; decide
 have h43l : (43 : UInt8) ∉ l2 := fun h => h43 (List.mem_append_left _ h)
 have h43p : (43 : UInt8) ∉ tp := fun h => h43 (List.mem_append_right _ h)
 have bad : ∀ (x : UInt8) (r : List UInt8), x ≠ 45 → x ≠ 43 → (match part 45 (x :: r) with
  | none => none
  | some (pre, r1) => match part 43 r1 with
   | none => none
   | some (mt, r2) => if r2 = [] then some ((⟨([] : List Nat).getD 0 0, 0, 0, ⟨pre.toArray⟩, ⟨mt.toArray⟩, s⟩ : SV), 0) else none) = none := by
  intro x r h1 h2
  rw [qPart_other h1]; simp only; rw [qPart_other h2]; simp
 -- behind the dash
 have tailm : ∀ (ns : List Nat) (pre : List UInt8), (match part 43 tm with
   | none => none
   | some (mt, r2) => if r2 = [] then some ((⟨ns.getD 0 0, ns.getD 1 0, ns.getD 2 0, ⟨pre.toArray⟩, ⟨mt.toArray⟩, s⟩ : SV), ns.length) else none)
   = (qOptB om).map fun mt => (⟨ns.getD 0 0, ns.getD 1 0, ns.getD 2 0, ⟨pre.toArray⟩, ⟨mt.toArray⟩, s⟩, ns.length) := by
  intro ns pre
  rcases htm with ⟨rfl, rfl⟩ | ⟨m, rfl, rfl⟩
  ·simp [part, qOptB]
  ·by_cases hi : qIdentsB m = true
   ·have := qPart_some (c := 43) (p := m) (t := []) rfl hi
    rw [List.append_nil] at this
    rw [this]; simp [qOptB, hi]
   ·have := qPart_bad (c := 43) (p := m) (t := []) rfl (by simpa using hi)
    rw [List.append_nil] at this
    rcases this with e | ⟨q, x, r, e, _⟩
    ·rw [e]; simp [qOptB, hi]
    ·rw [e]; simp [qOptB, hi]
 have tailp : ∀ (ns : List Nat), (match part 45 (tp ++ tm) with
   | none => none
   | some (pre, r1) => match part 43 r1 with
    | none => none
    | some (mt, r2) => if r2 = [] then some ((⟨ns.getD 0 0, ns.getD 1 0, ns.getD 2 0, ⟨pre.toArray⟩, ⟨mt.toArray⟩, s⟩ : SV), ns.length) else none)
   = match qOptB om with
    | none => none
    | some mt => (qOptB op).map fun pre => (⟨ns.getD 0 0, ns.getD 1 0, ns.getD 2 0, ⟨pre.toArray⟩, ⟨mt.toArray⟩, s⟩, ns.length) := by
  intro ns
  rcases htp with ⟨rfl, rfl⟩ | ⟨p, rfl, rfl⟩
  ·have e : part 45 ([] ++ tm) = some ([], tm) := by
    rw [List.nil_append]
    rcases htm with ⟨_, rfl⟩ | ⟨m, _, rfl⟩
    ·rfl
    ·exact qPart_other (by decide)
   rw [e]
   simp only
   rw [tailm ns []]
   cases qOptB om <;> simp [qOptB]
  ·by_cases hi : qIdentsB p = true
   ·rw [List.cons_append, qPart_some stm hi]
    simp only
    rw [tailm ns p]
    cases qOptB om <;> simp [qOptB, hi]
   ·have ho : qOptB (some p) = none := by simp [qOptB, hi]
    rw [ho]
    have e0 : (match qOptB om with | none => none | some mt => (none : Option (List UInt8)).map fun pre => ((⟨ns.getD 0 0, ns.getD 1 0, ns.getD 2 0, ⟨pre.toArray⟩, ⟨mt.toArray⟩, s⟩ : SV), ns.length)) = none := by
     cases qOptB om <;> rfl
    rw [e0, List.cons_append]
    rcases qPart_bad stm (by simpa using hi : qIdentsB p = false) with e | ⟨q, x, r, e, hm⟩
    ·rw [e]
    ·rw [e]
     have hx : x ≠ 43 := by
      rintro rfl
      skip
      exact h43p (List.mem_cons_of_mem _ (hm.subset (by simp)))
     simp only [List.cons_append]
     rw [qPart_other hx]; simp
 obtain ⟨n1, n2⟩ := qNums_app (tp ++ tm) nd 3 [] l2
 by_cases hgood : (qSplitOn 46 l2).length ≤ 3 ∧ ∃ ns, qNumsB (qSplitOn 46 l2) = some ns
 ·obtain ⟨hlen, ns, hns⟩ := hgood
  rw [n1 ns hlen hns]
  simp only [List.nil_append]
  refine (tailp ns).trans ?_
  cases qOptB om with
  | none => rfl
  | some mt =>
   cases qOptB op with
   | none => rfl
   | some pre => simp only [if_neg (show ¬ 3 < (qSplitOn 46 l2).length by omega), hns]; rfl
 ·have hb' : 3 < (qSplitOn 46 l2).length ∨ qNumsB (qSplitOn 46 l2) = none := by
   by_cases h3 : (qSplitOn 46 l2).length ≤ 3
   ·right
    cases e : qNumsB (qSplitOn 46 l2) with
    | none => rfl
    | some ns => exact absurd ⟨h3, ns, e⟩ hgood
   ·left; omega
  have hr : (match qOptB om with
   | none => none
   | some mt => match qOptB op with
    | none => none
    | some pre => if 3 < (qSplitOn 46 l2).length then none else match qNumsB (qSplitOn 46 l2) with
     | none => none
     | some ns => some (ns, pre, mt)) = (none : Option (List Nat × List UInt8 × List UInt8)) := by
   cases qOptB om with
   | none => rfl
   | some mt => cases qOptB op with
    | none => rfl
    | some pre =>
     simp only
     split
     ·rfl
     ·rcases hb' with h | h
      ·omega
      ·rw [h]
  rw [hr]
  rcases n2 hb' with e | ⟨ns, y, r, e, hm⟩
  ·rw [e]; rfl
  ·rw [e]
   skip
   have hy1 : y ≠ 45 := by rintro rfl; exact h45 (hm.subset (by simp))
   have hy2 : y ≠ 43 := by rintro rfl; exact h43l (hm.subset (by simp))
   simp only [List.cons_append]
   rw [qPart_other hy1]; simp only
   rw [qPart_other hy2]; simp
end Go.Proofs.YtgoeiflddikihaaGreatDoor.Ver
end
section
namespace Go.Proofs.YtgoeiflddikihaaGreatDoor.Ver
open Go.Proofs.YtgoeiflddikihaaGreatDoor.Ord
def preParts (l : List UInt8) : List (List UInt8) := if l = [] then [] else qSplitOn 46 l
theorem firstI_app {x r : List UInt8} (h : (46 : UInt8) ∉ x) : firstI (x ++ 46 :: r) = x ∧ restI (x ++ 46 :: r) = r := by
  have hx : ∀ a ∈ x, (a != 46) = true := fun a ha => by
    rw [bne_iff_ne]; rintro rfl; exact h ha
  constructor
  · unfold firstI; rw [List.takeWhile_append_of_pos hx]; simp
  · unfold restI; rw [List.dropWhile_append_of_pos hx]; simp
theorem firstI_one {x : List UInt8} (h : (46 : UInt8) ∉ x) : firstI x = x ∧ restI x = [] := by
  have hx : ∀ a ∈ x, (a != 46) = true := fun a ha => by
    rw [bne_iff_ne]; rintro rfl; exact h ha
  have h1 := List.takeWhile_append_of_pos (l₂ := []) hx
  have h2 := List.dropWhile_append_of_pos (l₂ := []) hx
  simp only [List.append_nil, List.takeWhile_nil, List.dropWhile_nil] at h1 h2
  exact ⟨h1, by unfold restI; rw [h2]; rfl⟩
theorem parts_split : ∀ (n : Nat) (l : List UInt8), l.length ≤ n → l ≠ [] → qIdentsB l = true → parts l = qSplitOn 46 l
  | 0, l, hn, hl, _ => absurd (List.length_eq_zero_iff.1 (by omega)) hl
  | n + 1, l, hn, hl, hi => by
    obtain ⟨x, hx, h⟩ := qSplitOn_first 46 l
    rcases h with ⟨rfl, h⟩ | ⟨r, rfl, h⟩
    · obtain ⟨h1, h2⟩ := firstI_one hx
      rw [parts_cons hl, h1, h2, parts_nil, h]
    · obtain ⟨h1, h2⟩ := firstI_app (r := r) hx
      have hi2 : qIdentsB r = true := by
        unfold qIdentsB at hi ⊢
        rw [h, List.all_cons, Bool.and_eq_true] at hi
        exact hi.2
      have hr : r ≠ [] := by rintro rfl; exact absurd hi2 (by decide)
      rw [parts_cons hl, h1, h2, h, parts_split n r (by simp at hn; omega) hr hi2]
theorem parts_pre {l : List UInt8} (h : l = [] ∨ qIdentsB l = true) : parts l = preParts l := by
  unfold preParts
  by_cases hl : l = []
  · rw [if_pos hl, hl, parts_nil]
  · rw [if_neg hl]; exact parts_split l.length l (Nat.le_refl _) hl (h.resolve_left hl)
theorem preParts_nil {l : List UInt8} : preParts l = [] ↔ l = [] := by
  unfold preParts
  by_cases hl : l = []
  · simp [hl]
  · rw [if_neg hl]; exact ⟨fun h => absurd h (qSplitOn_ne _ _), fun h => absurd h hl⟩
def preS (p q : List (List UInt8)) : Int := if p = [] ∨ q = [] then (if p.length = q.length then 0 else if 0 < p.length then -1 else 1) else listC idC p q
theorem preS_eq {a b : List UInt8} (ha : a = [] ∨ qIdentsB a = true) (hb : b = [] ∨ qIdentsB b = true) : preS (preParts a) (preParts b) = preC a b := by
  unfold preS
  simp only [preParts_nil]
  by_cases h1 : a = []
  · subst h1
    rw [if_pos (Or.inl rfl)]
    by_cases h2 : b = []
    · subst h2; rw [if_pos rfl]; exact (preC_same []).symm
    · have : preParts b ≠ [] := fun e => h2 (preParts_nil.1 e)
      have hl : (preParts b).length ≠ 0 := fun e => this (List.length_eq_zero_iff.1 e)
      have h0 : (preParts []).length = 0 := rfl
      rw [if_neg (by omega), if_neg (by omega), preC_left h2]
  · have hp : preParts a ≠ [] := fun e => h1 (preParts_nil.1 e)
    have hl : (preParts a).length ≠ 0 := fun e => hp (List.length_eq_zero_iff.1 e)
    by_cases h2 : b = []
    · subst h2
      have h0 : (preParts []).length = 0 := rfl
      rw [if_pos (Or.inr rfl), if_neg (by omega), if_pos (by omega), preC_right h1]
    · rw [if_neg (by simp [h1, h2]), preC_both h1 h2, parts_pre ha, parts_pre hb]
end Go.Proofs.YtgoeiflddikihaaGreatDoor.Ver
end
section
namespace Go.Proofs.YtgoeiflddikihaaGreatDoor.Ver
open Go.RowKit Go.Proofs.YtgoeiflddikihaaGreatDoor.PFnVersion Go.Proofs.YtgoeiflddikihaaGreatDoorW.PrintWords
abbrev mkB (l : List UInt8) : ByteArray := ⟨l.toArray⟩
theorem mkB_of {s : ByteArray} {l : List UInt8} (h : s.data.toList = l) : s = mkB l := by
  apply ByteArray.ext; show s.data = l.toArray; rw [← h, Array.toArray_toList]
theorem bt_same (s : ByteArray) (i : Nat) (h : i < s.size) (c : UInt8) : (bt s (i : Int) = (c.toNat : Int)) ↔ s[i] = c := by
  rw [bt_nat s i h]
  constructor
  · intro e; exact UInt8.toNat_inj.1 (by omega)
  · rintro e; rw [e]
def cutV (s : ByteArray) (pre : List UInt8) (q : List UInt8 × Option (List UInt8)) : ByteArray × ByteArray × Bool := match q.2 with
  | none => (s, ⟨#[]⟩, false)
  | some b => (mkB (pre ++ q.1), mkB b, true)
theorem cut_tells (s : ByteArray) (hn : s.size ≤ 140737488351232) (c : UInt8) (d : Nat) : ∀ i, i ≤ s.size → s.size - i = d → ∀ k, d < k →
    spec_verCut.l0 k s (c.toNat : Int) (i : Int) = some (cutV s (s.data.toList.take i) (qCutAt c (s.data.toList.drop i))) := by
  induction d with
  | zero =>
    intro i hi hd k hk
    obtain ⟨k, rfl⟩ : ∃ j, k = j + 1 := ⟨k - 1, by omega⟩
    rw [spec_verCut.l0, if_neg (by omega), List.drop_eq_nil_of_le (by rw [Array.length_toList]; show s.size ≤ i; omega)]
    rfl
  | succ d ih =>
    intro i hi hd k hk
    obtain ⟨k, rfl⟩ : ∃ j, k = j + 1 := ⟨k - 1, by omega⟩
    have hlt : i < s.size := by omega
    have w1 : wrap64 ((i : Int) + 1) = ((i + 1 : Nat) : Int) := by rw [wrap_in (by omega) (by omega)]; omega
    rw [drop_at s i hlt, spec_verCut.l0, if_pos (by omega), if_pos (by omega), w1]
    by_cases hc : s[i] = c
    · rw [if_pos ((bt_same s i hlt c).2 hc), if_pos (by omega), if_pos (by omega), if_pos (by omega), qCutAt, if_pos hc]
      have e1 : s.extract 0 ((i : Int)).toNat = mkB (s.data.toList.take i ++ []) := mkB_of (by rw [Int.toNat_natCast, take_data, List.append_nil])
      have e2 : s.extract (((i + 1 : Nat) : Int)).toNat s.size = mkB (s.data.toList.drop (i + 1)) := mkB_of (by rw [Int.toNat_natCast, drop_data])
      rw [e1, e2]; rfl
    · rw [if_neg (fun h => hc ((bt_same s i hlt c).1 h)), ih (i + 1) (by omega) (by omega) k (by omega), qCutAt, if_neg hc]
      have e : s.data.toList.take (i + 1) = s.data.toList.take i ++ [s[i]] := by
        rw [List.take_succ_eq_append_getElem (by rw [Array.length_toList]; exact hlt)]; rfl
      unfold cutV
      rw [e]
      cases (qCutAt c (s.data.toList.drop (i + 1))).2 <;> simp
def splitV (pre : List UInt8) (q : List (List UInt8)) : List ByteArray := match q with
  | h :: t => mkB (pre ++ h) :: t.map mkB
  | [] => []
theorem split_tells (s : ByteArray) (hn : s.size ≤ 3000000000) (c : UInt8) (d : Nat) : ∀ (i f : Nat) (acc : List ByteArray), f ≤ i → i ≤ s.size → s.size - i = d → acc.length + d < 8000000000000 → ∀ k, d + 1 < k →
    spec_verSplit.l0 k s (c.toNat : Int) acc (f : Int) (i : Int) = some (acc ++ splitV ((s.data.toList.take i).drop f) (qSplitOn c (s.data.toList.drop i))) := by
  have ex : ∀ f i : Nat, s.extract ((f : Int)).toNat ((i : Int)).toNat = mkB ((s.data.toList.take i).drop f) := fun f i => mkB_of (by
    rw [Int.toNat_natCast, Int.toNat_natCast, ByteArray.data_extract, Array.toList_extract]
    simp only [List.extract_eq_take_drop]
    rw [List.drop_take])
  induction d with
  | zero =>
    intro i f acc hf hi hd ha k hk
    obtain ⟨k, rfl⟩ : ∃ j, k = j + 2 := ⟨k - 2, by omega⟩
    have w1 : wrap64 ((i : Int) + 1) = ((i + 1 : Nat) : Int) := by rw [wrap_in (by omega) (by omega)]; omega
    have hnil : s.data.toList.drop i = [] := List.drop_eq_nil_of_le (by rw [Array.length_toList]; show s.size ≤ i; omega)
    rw [spec_verSplit.l0, if_pos (by omega), if_pos (by omega), if_pos (by omega), if_pos (by omega), if_pos (by omega), w1, spec_verSplit.l0, if_neg (by omega), hnil, ex]
    simp [qSplitOn, splitV]
  | succ d ih =>
    intro i f acc hf hi hd ha k hk
    obtain ⟨k, rfl⟩ : ∃ j, k = j + 1 := ⟨k - 1, by omega⟩
    have hlt : i < s.size := by omega
    have w1 : wrap64 ((i : Int) + 1) = ((i + 1 : Nat) : Int) := by rw [wrap_in (by omega) (by omega)]; omega
    rw [drop_at s i hlt, spec_verSplit.l0, if_pos (by omega), if_neg (by omega), if_pos (by omega), if_pos (by omega), w1]
    by_cases hc : s[i] = c
    · rw [if_pos ((bt_same s i hlt c).2 hc), if_pos (by omega), if_pos (by omega), if_pos (by omega), ih (i + 1) (i + 1) _ (by omega) (by omega) (by omega) (by rw [List.length_append, List.length_singleton]; omega) k (by omega), qSplitOn, if_pos hc, ex]
      have e : (s.data.toList.take (i + 1)).drop (i + 1) = [] := List.drop_eq_nil_of_le (by rw [List.length_take]; omega)
      rw [e, List.append_assoc]
      cases hq : qSplitOn c (s.data.toList.drop (i + 1)) with
      | nil => exact absurd hq (qSplitOn_ne _ _)
      | cons h t => simp [splitV]
    · rw [if_neg (fun h => hc ((bt_same s i hlt c).1 h)), ih (i + 1) f acc (by omega) (by omega) (by omega) (by omega) k (by omega)]
      obtain ⟨p, q, h1, h2⟩ := qSplitOn_cons (r := s.data.toList.drop (i + 1)) hc
      rw [h1, h2]
      have e : (s.data.toList.take (i + 1)).drop f = (s.data.toList.take i).drop f ++ [s[i]] := by
        rw [List.take_succ_eq_append_getElem (by rw [Array.length_toList]; exact hlt), List.drop_append_of_le_length (by rw [List.length_take, Array.length_toList]; show f ≤ min i s.size; omega)]; rfl
      rw [e]; simp [splitV]
def partsV (c : UInt8) (s : ByteArray) : List ByteArray := (qSplitOn c s.data.toList).map mkB
theorem split_f (s : ByteArray) (hn : s.size ≤ 3000000000) (c : UInt8) (k : Nat) (hk : s.size + 1 < k) : spec_verSplit.f k s (c.toNat : Int) = some (partsV c s) := by
  have := split_tells s hn c s.size 0 0 [] (Nat.le_refl _) (Nat.zero_le _) (by omega) (by rw [List.length_nil]; omega) k hk
  rw [spec_verSplit.f]
  refine this.trans ?_
  unfold partsV
  cases hq : qSplitOn c s.data.toList with
  | nil => exact absurd hq (qSplitOn_ne _ _)
  | cons h t => simp [splitV, hq]
theorem or_tab : ∀ n : Fin 256, (Go.bits .or .u8 ((n.val : Nat) : Int) 32 < 97 ∨ 122 < Go.bits .or .u8 ((n.val : Nat) : Int) 32) ↔ ¬ ((97 ≤ n.val ∧ n.val ≤ 122) ∨ (65 ≤ n.val ∧ n.val ≤ 90)) := by decide +kernel
theorem or_id (c : UInt8) : (Go.bits .or .u8 ((c.toNat : Nat) : Int) 32 < 97 ∨ 122 < Go.bits .or .u8 ((c.toNat : Nat) : Int) 32) ↔ ¬ ((97 ≤ c.toNat ∧ c.toNat ≤ 122) ∨ (65 ≤ c.toNat ∧ c.toNat ≤ 90)) :=
  or_tab ⟨c.toNat, c.toNat_lt⟩
theorem tree_id {α : Type} (c : UInt8) (S B : α) : (if (c.toNat : Int) < 48 then (if (c.toNat : Int) = 45 then S else B) else (if (c.toNat : Int) > 57 then (if (c.toNat : Int) = 45 then S else B) else S)) = if isDig c = true ∨ c.toNat = 45 then S else B := by
  have hd : isDig c = true ↔ 48 ≤ c.toNat ∧ c.toNat ≤ 57 := by simp only [isDig, Bool.and_eq_true, decide_eq_true_eq]
  by_cases h1 : (c.toNat : Int) < 48
  · rw [if_pos h1]
    by_cases h2 : (c.toNat : Int) = 45
    · rw [if_pos h2, if_pos (Or.inr (by omega))]
    · rw [if_neg h2, if_neg (by rw [hd]; omega)]
  · rw [if_neg h1]
    by_cases h2 : (c.toNat : Int) > 57
    · rw [if_pos h2, if_neg (by omega), if_neg (by rw [hd]; omega)]
    · rw [if_neg h2, if_pos (by rw [hd]; omega)]
theorem tree_or {α : Type} (o : Int) (T S : α) : (if o < 97 then T else if o > 122 then T else S) = if o < 97 ∨ 122 < o then T else S := by
  by_cases h1 : o < 97
  · rw [if_pos h1, if_pos (Or.inl h1)]
  · by_cases h2 : o > 122
    · rw [if_neg h1, if_pos h2, if_pos (Or.inr h2)]
    · rw [if_neg h1, if_neg h2, if_neg (by omega)]
set_option maxHeartbeats 4000000 in
theorem idents_tells (L : List ByteArray) (hL : ∀ x ∈ L, x.size ≤ 140737488351232) (hl : L.length ≤ 3000000000) (d : Nat) : ∀ j : Nat, j ≤ L.length → L.length - j = d → ∃ k0, ∀ k, k0 ≤ k →
    spec_verIdents.l0 k L L (L.length : Int) (j : Int) = some (if (L.drop j).all (fun x => !x.data.toList.isEmpty && x.data.toList.all isId) then (L, true) else ([], false)) := by
  induction d with
  | zero =>
    intro j hj hd
    refine ⟨1, fun k hk => ?_⟩
    obtain ⟨k, rfl⟩ : ∃ i, k = i + 1 := ⟨k - 1, by omega⟩
    rw [spec_verIdents.l0, if_neg (by omega), List.drop_eq_nil_of_le (by omega)]
    rfl
  | succ d ih =>
    intro j hj hd
    have hlt : j < L.length := by omega
    obtain ⟨k0, ih⟩ := ih (j + 1) (by omega) (by omega)
    generalize hx : L[j] = x
    have hxs : x.size ≤ 140737488351232 := hL x (by rw [← hx]; exact List.getElem_mem hlt)
    have hrd : rdOf ByteArray.empty L (j : Int) = x := by
      rw [← hx]; simp [rdOf, hlt]
    have hdrop : L.drop j = x :: L.drop (j + 1) := by rw [List.drop_eq_getElem_cons hlt, hx]
    -- the bytes of the piece
    have inner : ∀ e i : Nat, i ≤ x.size → x.size - i = e → ∃ k1, ∀ k, k1 ≤ k →
        spec_verIdents.l1 k L x (i : Int) L (L.length : Int) (j : Int) = some (if (x.data.toList.drop i).all isId && !x.data.toList.isEmpty && (L.drop (j + 1)).all (fun x => !x.data.toList.isEmpty && x.data.toList.all isId) then (L, true) else ([], false)) := by
      intro e
      induction e with
      | zero =>
        intro i hi he
        refine ⟨k0 + 1, fun k hk => ?_⟩
        obtain ⟨k, rfl⟩ : ∃ i, k = i + 1 := ⟨k - 1, by omega⟩
        rw [spec_verIdents.l1, if_neg (by omega), List.drop_eq_nil_of_le (by rw [Array.length_toList]; show x.size ≤ i; omega)]
        by_cases hn : x.data.toList = []
        · have : x.toList = [] := by rw [ByteArray.toList_eq]; exact hn
          rw [if_pos this, hn]; simp
        · have : ¬ x.toList = [] := by rw [ByteArray.toList_eq]; exact hn
          have w1 : wrap64 ((j : Int) + 1) = ((j + 1 : Nat) : Int) := by rw [wrap_in (by omega) (by omega)]; omega
          rw [if_neg this, w1, ih k (by omega)]
          have : x.data.toList.isEmpty = false := by cases h : x.data.toList with | nil => exact absurd h hn | cons _ _ => rfl
          rw [this]; simp
      | succ e ihe =>
        intro i hi he
        have hlti : i < x.size := by omega
        obtain ⟨k1, ihe⟩ := ihe (i + 1) (by omega) (by omega)
        refine ⟨k1 + 1, fun k hk => ?_⟩
        obtain ⟨k, rfl⟩ : ∃ i, k = i + 1 := ⟨k - 1, by omega⟩
        have w2 : wrap64 ((i : Int) + 1) = ((i + 1 : Nat) : Int) := by rw [wrap_in (by omega) (by omega)]; omega
        have e1 := ihe k (by omega)
        have g1 : (i : Int) < (x.size : Int) := Int.ofNat_lt.2 hlti
        have g2 : (0 : Int) ≤ (i : Int) := Int.natCast_nonneg i
        rw [drop_at x i hlti, spec_verIdents.l1, if_pos g1, if_pos g2, bt_nat x i hlti, w2, List.all_cons]
        generalize spec_verIdents.l1 k L x ((i + 1 : Nat) : Int) L (L.length : Int) (j : Int) = S at e1 ⊢
        generalize x[i] = c
        have ho := or_id c
        generalize Go.bits .or .u8 ((c.toNat : Nat) : Int) 32 = o at *
        rw [tree_id, tree_or]
        have hid : (isId c = true) ↔ ((isDig c = true ∨ c.toNat = 45) ∨ ((97 ≤ c.toNat ∧ c.toNat ≤ 122) ∨ (65 ≤ c.toNat ∧ c.toNat ≤ 90))) := by
          simp only [isId, Bool.or_eq_true, Bool.and_eq_true, decide_eq_true_eq, beq_iff_eq]
          cases isDig c <;> simp <;> omega
        by_cases h1 : isId c = true
        · rw [h1, Bool.true_and, e1]
          by_cases h2 : o < 97 ∨ 122 < o
          · rw [if_pos h2, if_pos ((hid.1 h1).resolve_right (ho.1 h2))]
          · rw [if_neg h2]
        · have hf : isId c = false := by simpa using h1
          rw [hf, Bool.false_and, Bool.false_and, Bool.false_and, if_pos (ho.2 fun h => h1 (hid.2 (Or.inr h))), if_neg (fun h => h1 (hid.2 (Or.inl h)))]
          rfl
    obtain ⟨k1, inn⟩ := inner x.size 0 (Nat.zero_le _) (by omega)
    refine ⟨k1 + 1, fun k hk => ?_⟩
    obtain ⟨k, rfl⟩ : ∃ i, k = i + 1 := ⟨k - 1, by omega⟩
    rw [spec_verIdents.l0, if_pos (by omega), if_pos (by omega), if_pos (by omega), hrd, hdrop, List.all_cons]
    refine (inn k (by omega)).trans ?_
    rw [List.drop_zero, Bool.and_comm (!_) _]
theorem parts_len (c : UInt8) : ∀ l : List UInt8, (qSplitOn c l).length ≤ l.length + 1
  | [] => Nat.le_refl _
  | x :: r => by
    have := parts_len c r
    by_cases h : x = c
    · rw [qSplitOn, if_pos h]; simp; omega
    · obtain ⟨p, q, h1, h2⟩ := qSplitOn_cons (r := r) h
      rw [h2]; rw [h1] at this; simp at this ⊢; omega
theorem parts_size (c : UInt8) : ∀ l : List UInt8, ∀ x ∈ qSplitOn c l, x.length ≤ l.length
  | [], x, hx => by simp [qSplitOn] at hx; simp [hx]
  | y :: r, x, hx => by
    have ih := parts_size c r
    by_cases h : y = c
    · rw [qSplitOn, if_pos h] at hx
      rcases List.mem_cons.1 hx with rfl | hx
      · simp
      · have := ih x hx; simp; omega
    · obtain ⟨p, q, h1, h2⟩ := qSplitOn_cons (r := r) h
      rw [h2] at hx; rw [h1] at ih
      rcases List.mem_cons.1 hx with rfl | hx
      · have := ih p (List.mem_cons_self ..); simp; omega
      · have := ih x (List.mem_cons_of_mem _ hx); simp; omega
theorem idents_f (s : ByteArray) (hn : s.size ≤ 2500000000) : ∃ k, spec_verIdents.f k s = some (if qIdentsB s.data.toList then (partsV 46 s, true) else ([], false)) := by
  have hlen : (partsV 46 s).length ≤ s.size + 1 := by
    unfold partsV; rw [List.length_map]
    have := parts_len 46 s.data.toList
    rw [Array.length_toList] at this; exact this
  have hmem : ∀ x ∈ partsV 46 s, x.size ≤ 140737488351232 := by
    intro x hx
    obtain ⟨y, hy, rfl⟩ := List.mem_map.1 hx
    have := parts_size 46 s.data.toList y hy
    rw [Array.length_toList] at this
    have h2 : s.data.size = s.size := rfl
    have h3 : (mkB y).size = y.length := by show y.toArray.size = _; rw [List.size_toArray]
    have h4 : s.data.toList.length = s.size := by rw [Array.length_toList]; rfl
    have h5 := parts_size 46 s.data.toList y hy
    clear h2 this
    rw [h3]; omega
  obtain ⟨k0, h⟩ := idents_tells (partsV 46 s) hmem (by omega) (partsV 46 s).length 0 (Nat.zero_le _) (by omega)
  refine ⟨k0 + s.size + 2, ?_⟩
  have h46 : ((46 : UInt8).toNat : Int) = 46 := rfl
  have hs := split_f s (by omega) 46 (k0 + s.size + 2) (by omega)
  rw [h46] at hs
  rw [spec_verIdents.f, hs]
  show spec_verIdents.l0 _ _ _ _ _ = _
  refine (h _ (by omega)).trans ?_
  rw [List.drop_zero]
  have e : (partsV 46 s).all (fun x => !x.data.toList.isEmpty && x.data.toList.all isId) = qIdentsB s.data.toList := by
    unfold partsV qIdentsB
    rw [List.all_map]; rfl
  rw [e]
theorem digits_tells (s : ByteArray) (hn : s.size ≤ 140737488351232) (d : Nat) : ∀ i, i ≤ s.size → s.size - i = d → ∀ k, d < k →
    spec_verDigits.l0 k s (i : Int) = some ((s.data.toList.drop i).all isDig && (!s.data.toList.isEmpty || decide (i < s.size))) := by
  induction d with
  | zero =>
    intro i hi hd k hk
    obtain ⟨k, rfl⟩ : ∃ j, k = j + 1 := ⟨k - 1, by omega⟩
    rw [spec_verDigits.l0, if_neg (by omega), List.drop_eq_nil_of_le (by rw [Array.length_toList]; show s.size ≤ i; omega), decide_eq_false (by omega), ByteArray.toList_eq]
    cases s.data.toList <;> rfl
  | succ d ih =>
    intro i hi hd k hk
    obtain ⟨k, rfl⟩ : ∃ j, k = j + 1 := ⟨k - 1, by omega⟩
    have hlt : i < s.size := by omega
    have w1 : wrap64 ((i : Int) + 1) = ((i + 1 : Nat) : Int) := by rw [wrap_in (by omega) (by omega)]; omega
    have hne : s.data.toList.isEmpty = false := by
      cases h : s.data.toList with
      | nil => exfalso; have : s.data.toList.length = 0 := by rw [h]; rfl
               rw [Array.length_toList] at this; have h2 : s.data.size = s.size := rfl; omega
      | cons _ _ => rfl
    rw [drop_at s i hlt, spec_verDigits.l0, if_pos (by omega), if_pos (by omega), bt_nat s i hlt, w1, ih (i + 1) (by omega) (by omega) k (by omega), List.all_cons, hne]
    generalize s[i] = c
    by_cases a : (c.toNat : Int) < 48
    · rw [if_pos a, show isDig c = false from by unfold isDig; rw [decide_eq_false (by omega)]; rfl]; rfl
    · by_cases b : (c.toNat : Int) > 57
      · rw [if_neg a, if_pos b, show isDig c = false from by unfold isDig; rw [decide_eq_false (p := c.toNat ≤ 57) (by omega)]; simp]; rfl
      · rw [if_neg a, if_neg b, show isDig c = true from by unfold isDig; rw [decide_eq_true (by omega), decide_eq_true (by omega)]; rfl]; simp
theorem num_tells (s : ByteArray) (hn : s.size ≤ 140737488351232) (d : Nat) : ∀ i acc : Nat, i ≤ s.size → s.size - i = d → (s.data.toList.drop i).all isDig = true → acc ≤ 18446744073709551615 → ∀ k, d < k →
    spec_verNumber.l0 k s (acc : Int) (i : Int) = some (match Lib.parseUintM 18446744073709551615 acc (s.data.toList.drop i) with | .ok u => ((u : Int), true) | _ => (0, false)) := by
  induction d with
  | zero =>
    intro i acc hi hd _ _ k hk
    obtain ⟨k, rfl⟩ : ∃ j, k = j + 1 := ⟨k - 1, by omega⟩
    rw [spec_verNumber.l0, if_neg (by omega), List.drop_eq_nil_of_le (by rw [Array.length_toList]; show s.size ≤ i; omega)]
    rfl
  | succ d ih =>
    intro i acc hi hd hall hacc k hk
    obtain ⟨k, rfl⟩ : ∃ j, k = j + 1 := ⟨k - 1, by omega⟩
    have hlt : i < s.size := by omega
    have w1 : wrap64 ((i : Int) + 1) = ((i + 1 : Nat) : Int) := by rw [wrap_in (by omega) (by omega)]; omega
    rw [drop_at s i hlt, List.all_cons, Bool.and_eq_true] at hall
    obtain ⟨hd1, hall⟩ := hall
    rw [drop_at s i hlt, spec_verNumber.l0, if_pos (by omega), if_pos (by omega), bt_nat s i hlt, w1, Lib.parseUintM]
    generalize s[i] = c at *
    simp only [isDig, Bool.and_eq_true, decide_eq_true_eq] at hd1
    rw [if_pos hd1]
    have hm : ((c.toNat : Int) - 48) % 256 = ((c.toNat - 48 : Nat) : Int) := by omega
    rw [hm]
    by_cases h1 : 1844674407370955162 ≤ acc
    · rw [if_pos h1, if_pos (by omega)]
    · rw [if_neg h1]
      by_cases h2 : 18446744073709551615 < acc * 10 + (c.toNat - 48)
      · rw [if_pos h2, if_pos (by omega)]
      · rw [if_neg h2, if_neg (by omega)]
        have e : IntKind.u64.wrap (IntKind.u64.wrap (10 * (acc : Int)) + ((c.toNat - 48 : Nat) : Int)) = ((acc * 10 + (c.toNat - 48) : Nat) : Int) := by
          have u : ∀ z : Int, 0 ≤ z → z ≤ 18446744073709551615 → IntKind.u64.wrap z = z := fun z h0 h1 => by
            show z % 18446744073709551616 = z; omega
          rw [u (10 * (acc : Int)) (by omega) (by omega), u _ (by omega) (by omega)]; omega
        rw [e]
        exact ih (i + 1) _ (by omega) (by omega) hall (by omega) k (by omega)
theorem number_f (s : ByteArray) (hn : s.size ≤ 140737488351232) : ∃ n k, spec_verNumber.f k s = some (n, (qNumB s.data.toList).isSome) ∧ ∀ u, qNumB s.data.toList = some u → n = (u : Int) := by
  have hd := digits_tells s hn s.size 0 (Nat.zero_le _) (by omega) (s.size + 1) (by omega)
  have hb : ((s.data.toList.drop 0).all isDig && (!s.data.toList.isEmpty || decide (0 < s.size))) = (s.data.toList.all isDig && !s.data.toList.isEmpty) := by
    rw [List.drop_zero]
    cases h : s.data.toList with
    | nil => have : s.data.toList.length = 0 := by rw [h]; rfl
             rw [Array.length_toList] at this; have h2 : s.data.size = s.size := rfl
             rw [decide_eq_false (by omega)]; rfl
    | cons _ _ => simp
  rw [hb] at hd
  by_cases hok : (s.data.toList.all isDig && !s.data.toList.isEmpty) = true
  · have hnum := num_tells s hn s.size 0 0 (Nat.zero_le _) (by omega) (by rw [List.drop_zero]; exact (Bool.and_eq_true _ _ ▸ hok).1) (by omega) (s.size + 1) (by omega)
    have hne : s.data.toList ≠ [] := by intro h; rw [h] at hok; simp at hok
    have hq : Lib.parseUintB 64 s.data.toList = Lib.parseUintM 18446744073709551615 0 s.data.toList := by rw [Lib.parseUintB, if_neg hne]
    rw [List.drop_zero, ← hq] at hnum
    unfold qNumB
    have open0 : spec_verNumber.f (s.size + 1) s = spec_verNumber.l0 (s.size + 1) s 0 0 := by
      rw [spec_verNumber.f, spec_verDigits.f]
      show ((spec_verDigits.l0 (s.size + 1) s ((0 : Nat) : Int)).bind _) = _
      rw [hd, hok]; rfl
    have hnum' : spec_verNumber.f (s.size + 1) s = _ := open0.trans hnum
    cases hp : Lib.parseUintB 64 s.data.toList <;> rw [hp] at hnum' <;>
      first
        | exact ⟨_, s.size + 1, hnum', fun v hv => by cases hv; rfl⟩
        | exact ⟨0, s.size + 1, hnum', fun v hv => by cases hv⟩
  · have hok' : (s.data.toList.all isDig && !s.data.toList.isEmpty) = false := by simpa using hok
    have hq : qNumB s.data.toList = none := by
      cases h : qNumB s.data.toList with
      | none => rfl
      | some u =>
        obtain ⟨_, h1, h2⟩ := qNumB_some h
        exfalso; apply hok
        rw [h2]
        cases h3 : s.data.toList with
        | nil => exact absurd h3 h1
        | cons _ _ => rfl
    exact ⟨0, s.size + 1, by
      rw [spec_verNumber.f, spec_verDigits.f]
      show ((spec_verDigits.l0 (s.size + 1) s ((0 : Nat) : Int)).bind _) = _
      rw [hd, hok', hq]; rfl, fun u hu => by rw [hq] at hu; cases hu⟩
end Go.Proofs.YtgoeiflddikihaaGreatDoor.Ver
end
section
namespace Go.Proofs.YtgoeiflddikihaaGreatDoor.Ver
open Go.RowKit Go.Proofs.YtgoeiflddikihaaGreatDoorW.PrintWords Go.Proofs.YtgoeiflddikihaaGreatDoor.Ord
theorem str_cases (x y : ByteArray) : (Op.bytesLess x.toList y.toList = true ∧ (x.toList == y.toList) = false ∧ bytesC x.data.toList y.data.toList = -1) ∨ (Op.bytesLess x.toList y.toList = false ∧ (x.toList == y.toList) = true ∧ bytesC x.data.toList y.data.toList = 0) ∨ (Op.bytesLess x.toList y.toList = false ∧ (x.toList == y.toList) = false ∧ bytesC x.data.toList y.data.toList = 1) := by
  rw [ByteArray.toList_eq, ByteArray.toList_eq, bytesC_form]
  generalize x.data.toList = a
  generalize y.data.toList = b
  by_cases h : Op.bytesLess a b = true
  · refine Or.inl ⟨h, ?_, by rw [if_pos h]⟩
    rw [beq_eq_false_iff_ne]
    rintro rfl
    have := (bytesC_less a a).2 h
    rw [cmp_bytes.refl] at this
    omega
  · have h' : Op.bytesLess a b = false := by simpa using h
    by_cases e : a = b
    · exact Or.inr (Or.inl ⟨h', beq_iff_eq.2 e, by rw [if_neg h, if_pos e]⟩)
    · exact Or.inr (Or.inr ⟨h', beq_eq_false_iff_ne.2 e, by rw [if_neg h, if_neg e]⟩)
theorem num_as {s : ByteArray} {b : Bool} (hn : s.size ≤ 140737488351232) (h : idNum s.data.toList = b) (w : World) : Calls Tryz.prog 212 #[.string s] w fun e w' => e = .returned (.bool b) ∧ Drawn0 w w' :=
  (number_any s hn w).mono fun _ _ ⟨he, hd⟩ => ⟨by rw [he, h], ⟨hd⟩⟩
theorem bare_as (s : ByteArray) (w : World) : Calls Tryz.prog 213 #[.string s] w fun e w' => e = .returned (.string (bareB s)) ∧ Drawn0 w w' :=
  (bare_any s w).mono fun _ _ ⟨he, hd⟩ => ⟨he, ⟨hd⟩⟩
set_option maxHeartbeats 2000000 in
theorem cp_nn (x y : ByteArray) (hx : x.size ≤ 140737488351232) (hy : y.size ≤ 140737488351232) (ha : idNum x.data.toList = true) (hb : idNum y.data.toList = true) (w : World) :
    Calls Tryz.prog 211 #[.string x, .string y] w fun e w' => e = .returned (.int .i64 (idC x.data.toList y.data.toList)) ∧ Drawn0 w w' := by
  have N1 := Lib.hid (num_as hx ha)
  have N2 := Lib.hid (num_as hy hb)
  have B1 := Lib.hid (bare_as x)
  have B2 := Lib.hid (bare_as y)
  have z1 : (bareZ x.data.toList).length = (bareB x).size := (len_list (bareB x))
  have z2 : (bareZ y.data.toList).length = (bareB y).size := (len_list (bareB y))
  have hR := idC_nn ha hb
  rw [z1, z2] at hR
  rw [hR]
  clear hR hx hy
  by_cases hl : (bareB x).size = (bareB y).size
  · rw [if_pos hl]
    show Calls _ _ _ _ fun e w' => e = .returned (.int .i64 (bytesC (bareB x).data.toList (bareB y).data.toList)) ∧ _
    have l1 : (((bareB x).size : Int) != ((bareB y).size : Int)) = false := by rw [hl]; simp
    clear hl ha hb z1 z2
    generalize bareB x = X at *
    generalize bareB y = Y at *
    rcases str_cases X Y with ⟨c1, c2, c3⟩ | ⟨c1, c2, c3⟩ | ⟨c1, c2, c3⟩
    all_goals
      rw [c3]
      clear c3
      go_enter Tryz.func211, Tryz.ntmps211
      go_wp2_with (first
        | (go_at_call 212; ((with_reducible refine (N1.out _).mono ?_); rintro e w1 ⟨rfl, ⟨n1, rfl⟩⟩))
        | (go_at_call 212; ((with_reducible refine (N2.out _).mono ?_); rintro e w1 ⟨rfl, ⟨n2, rfl⟩⟩))
        | (go_at_call 213; ((with_reducible refine (B1.out _).mono ?_); rintro e w1 ⟨rfl, ⟨n3, rfl⟩⟩))
        | (go_at_call 213; ((with_reducible refine (B2.out _).mono ?_); rintro e w1 ⟨rfl, ⟨n4, rfl⟩⟩)))
      go_ret
      exact ⟨rfl, by repeat (first | exact Drawn0.refl _ | apply Drawn0.step)⟩
  · rw [if_neg hl]
    have l1 : (((bareB x).size : Int) != ((bareB y).size : Int)) = true := by rw [bne_iff_ne]; omega
    by_cases hlt : (bareB x).size < (bareB y).size
    · rw [if_pos hlt]
      have l2 : decide ((bareB x).size < (bareB y).size) = true := decide_eq_true hlt
      clear hl ha hb z1 z2 hlt
      generalize bareB x = X at *
      generalize bareB y = Y at *
      go_enter Tryz.func211, Tryz.ntmps211
      go_wp2_with (first
        | (go_at_call 212; ((with_reducible refine (N1.out _).mono ?_); rintro e w1 ⟨rfl, ⟨n1, rfl⟩⟩))
        | (go_at_call 212; ((with_reducible refine (N2.out _).mono ?_); rintro e w1 ⟨rfl, ⟨n2, rfl⟩⟩))
        | (go_at_call 213; ((with_reducible refine (B1.out _).mono ?_); rintro e w1 ⟨rfl, ⟨n3, rfl⟩⟩))
        | (go_at_call 213; ((with_reducible refine (B2.out _).mono ?_); rintro e w1 ⟨rfl, ⟨n4, rfl⟩⟩)))
      go_ret
      exact ⟨rfl, by repeat (first | exact Drawn0.refl _ | apply Drawn0.step)⟩
    · rw [if_neg hlt]
      have l2 : decide ((bareB x).size < (bareB y).size) = false := decide_eq_false hlt
      clear hl ha hb z1 z2 hlt
      generalize bareB x = X at *
      generalize bareB y = Y at *
      go_enter Tryz.func211, Tryz.ntmps211
      go_wp2_with (first
        | (go_at_call 212; ((with_reducible refine (N1.out _).mono ?_); rintro e w1 ⟨rfl, ⟨n1, rfl⟩⟩))
        | (go_at_call 212; ((with_reducible refine (N2.out _).mono ?_); rintro e w1 ⟨rfl, ⟨n2, rfl⟩⟩))
        | (go_at_call 213; ((with_reducible refine (B1.out _).mono ?_); rintro e w1 ⟨rfl, ⟨n3, rfl⟩⟩))
        | (go_at_call 213; ((with_reducible refine (B2.out _).mono ?_); rintro e w1 ⟨rfl, ⟨n4, rfl⟩⟩)))
      go_ret
      exact ⟨rfl, by repeat (first | exact Drawn0.refl _ | apply Drawn0.step)⟩
theorem cp_na (x y : ByteArray) (hx : x.size ≤ 140737488351232) (hy : y.size ≤ 140737488351232) (ha : idNum x.data.toList = true) (hb : idNum y.data.toList = false) (w : World) :
    Calls Tryz.prog 211 #[.string x, .string y] w fun e w' => e = .returned (.int .i64 (idC x.data.toList y.data.toList)) ∧ Drawn0 w w' := by
  have N1 := Lib.hid (num_as hx ha)
  have N2 := Lib.hid (num_as hy hb)
  rw [idC_na ha hb]
  clear ha hb hx hy
  go_enter Tryz.func211, Tryz.ntmps211
  go_wp2_with (first
    | (go_at_call 212; ((with_reducible refine (N1.out _).mono ?_); rintro e w1 ⟨rfl, ⟨n1, rfl⟩⟩))
    | (go_at_call 212; ((with_reducible refine (N2.out _).mono ?_); rintro e w1 ⟨rfl, ⟨n2, rfl⟩⟩)))
  go_ret
  exact ⟨rfl, by repeat (first | exact Drawn0.refl _ | apply Drawn0.step)⟩
theorem cp_an (x y : ByteArray) (hx : x.size ≤ 140737488351232) (hy : y.size ≤ 140737488351232) (ha : idNum x.data.toList = false) (hb : idNum y.data.toList = true) (w : World) :
    Calls Tryz.prog 211 #[.string x, .string y] w fun e w' => e = .returned (.int .i64 (idC x.data.toList y.data.toList)) ∧ Drawn0 w w' := by
  have N1 := Lib.hid (num_as hx ha)
  have N2 := Lib.hid (num_as hy hb)
  rw [idC_an ha hb]
  clear ha hb hx hy
  go_enter Tryz.func211, Tryz.ntmps211
  go_wp2_with (first
    | (go_at_call 212; ((with_reducible refine (N1.out _).mono ?_); rintro e w1 ⟨rfl, ⟨n1, rfl⟩⟩))
    | (go_at_call 212; ((with_reducible refine (N2.out _).mono ?_); rintro e w1 ⟨rfl, ⟨n2, rfl⟩⟩)))
  go_ret
  exact ⟨rfl, by repeat (first | exact Drawn0.refl _ | apply Drawn0.step)⟩
theorem cp_aa (x y : ByteArray) (hx : x.size ≤ 140737488351232) (hy : y.size ≤ 140737488351232) (ha : idNum x.data.toList = false) (hb : idNum y.data.toList = false) (w : World) :
    Calls Tryz.prog 211 #[.string x, .string y] w fun e w' => e = .returned (.int .i64 (idC x.data.toList y.data.toList)) ∧ Drawn0 w w' := by
  have N1 := Lib.hid (num_as hx ha)
  have N2 := Lib.hid (num_as hy hb)
  rw [idC_aa ha hb]
  clear ha hb hx hy
  rcases str_cases x y with ⟨c1, c2, c3⟩ | ⟨c1, c2, c3⟩ | ⟨c1, c2, c3⟩
  all_goals
    rw [c3]
    clear c3
    go_enter Tryz.func211, Tryz.ntmps211
    go_wp2_with (first
      | (go_at_call 212; ((with_reducible refine (N1.out _).mono ?_); rintro e w1 ⟨rfl, ⟨n1, rfl⟩⟩))
      | (go_at_call 212; ((with_reducible refine (N2.out _).mono ?_); rintro e w1 ⟨rfl, ⟨n2, rfl⟩⟩)))
    go_ret
    exact ⟨rfl, by repeat (first | exact Drawn0.refl _ | apply Drawn0.step)⟩
theorem compare_any (x y : ByteArray) (hx : x.size ≤ 140737488351232) (hy : y.size ≤ 140737488351232) (w : World) :
    Calls Tryz.prog 211 #[.string x, .string y] w fun e w' => e = .returned (.int .i64 (idC x.data.toList y.data.toList)) ∧ Drawn0 w w' := by
  cases ha : idNum x.data.toList <;> cases hb : idNum y.data.toList
  · exact cp_aa x y hx hy ha hb w
  · exact cp_an x y hx hy ha hb w
  · exact cp_na x y hx hy ha hb w
  · exact cp_nn x y hx hy ha hb w
end Go.Proofs.YtgoeiflddikihaaGreatDoor.Ver
end
section
namespace Go.Proofs.YtgoeiflddikihaaGreatDoor.Ver
set_option linter.unusedSimpArgs false
set_option linter.unusedVariables false
open Go.RowKit Go.Proofs.YtgoeiflddikihaaGreatDoor.PFnIntersectAny Go.Proofs.YtgoeiflddikihaaGreatDoorW.PrintWords
theorem split_loop (s sep : ByteArray) (hs : s.size ≤ 1000000000000) (h1 : 1 ≤ sep.size) (h2 : sep.size ≤ 1000) (hno : ∀ j, j + sep.size ≤ s.size → (s.extract j (j + sep.size)).toList ≠ sep.toList) (d : Nat) :
    ∀ j : Nat, j ≤ s.size → s.size - j = d → ∀ n, d < n → semver_split.l0 n s sep [] 0 (j : Int) = some [s] := by
  induction d with
  | zero =>
    intro j hj hd n hn
    obtain ⟨n, rfl⟩ : ∃ i, n = i + 1 := ⟨n - 1, by omega⟩
    have w1 : wrap64 ((j : Int) + (sep.size : Int)) = ((j + sep.size : Nat) : Int) := by rw [wrap_in (by omega) (by omega)]; omega
    rw [semver_split.l0, w1, if_neg (by omega), if_pos (by decide), if_pos (by omega), if_pos (by simp)]
    simp
  | succ d ih =>
    intro j hj hd n hn
    obtain ⟨n, rfl⟩ : ∃ i, n = i + 1 := ⟨n - 1, by omega⟩
    have w1 : wrap64 ((j : Int) + (sep.size : Int)) = ((j + sep.size : Nat) : Int) := by rw [wrap_in (by omega) (by omega)]; omega
    have w2 : wrap64 ((j : Int) + 1) = ((j + 1 : Nat) : Int) := by rw [wrap_in (by omega) (by omega)]; omega
    by_cases hc : j + sep.size ≤ s.size
    · rw [semver_split.l0, w1, if_pos (by omega), if_pos (by omega), if_pos (by omega), Int.toNat_natCast, Int.toNat_natCast, if_neg (hno j hc), w2]
      exact ih (j + 1) (by omega) (by omega) n (by omega)
    · rw [semver_split.l0, w1, if_neg (by omega), if_pos (by decide), if_pos (by omega), if_pos (by simp)]
      simp
theorem split_one (s sep : ByteArray) (hs : s.size ≤ 1000000000000) (h1 : 1 ≤ sep.size) (h2 : sep.size ≤ 1000) (hno : ∀ j, j + sep.size ≤ s.size → (s.extract j (j + sep.size)).toList ≠ sep.toList) : semver_split.f (s.size + 1) s sep = some [s] := by
  rw [semver_split.f]
  exact split_loop s sep hs h1 h2 hno s.size 0 (Nat.zero_le _) (by omega) _ (by omega)
theorem no_piece {s sep : ByteArray} {c : UInt8} (h1 : 1 ≤ sep.size) (hc : sep.toList.head? = some c) (hn : c ∉ s.data.toList) : ∀ j, j + sep.size ≤ s.size → (s.extract j (j + sep.size)).toList ≠ sep.toList := by
  intro j hj e
  apply hn
  have hm : c ∈ (s.extract j (j + sep.size)).toList := by
    rw [e]
    cases hl : sep.toList with
    | nil => rw [hl] at hc; cases hc
    | cons a r => rw [hl] at hc; simp at hc; subst hc; exact List.mem_cons_self
  rw [ByteArray.toList_eq] at hm
  have : (s.extract j (j + sep.size)).data.toList = (s.data.toList.drop j).take sep.size := by
    simp [List.take_drop]
  rw [this] at hm
  exact List.mem_of_mem_drop (List.mem_of_mem_take hm)
end Go.Proofs.YtgoeiflddikihaaGreatDoor.Ver
end
section
namespace Go.Proofs.YtgoeiflddikihaaGreatDoor.Ver
set_option linter.unusedSimpArgs false
set_option linter.unusedVariables false
open Go.RowKit Go.Proofs.YtgoeiflddikihaaGreatDoor.PFnVersion Go.Proofs.YtgoeiflddikihaaGreatDoorW.PrintWords
structure RightV (k : Int) (t r : ByteArray) : Prop where
  k0 : 0 ≤ k
  k3 : k ≤ 3
  t0 : 0 < t.size
  t60 : t.size ≤ 60
  r60 : r.size ≤ 60
  rk : k = 0 → r = ⟨#[]⟩
theorem nil_of_toList {r : ByteArray} (h : r.toList = []) : r = ⟨#[]⟩ := by
  rw [ByteArray.toList_eq] at h
  apply ByteArray.ext
  exact Array.toList_eq_nil_iff.1 h
end Go.Proofs.YtgoeiflddikihaaGreatDoor.Ver
end
