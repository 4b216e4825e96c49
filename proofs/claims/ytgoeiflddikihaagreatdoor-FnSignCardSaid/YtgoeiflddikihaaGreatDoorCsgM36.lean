/- Merged by program out of: SemU, ConB, ConC, ConD, ConE, Part, ConH. -/
import Derived.Test.YtgoeiflddikihaaGreatDoorCsgM3
import Derived.Test.YtgoeiflddikihaaGreatDoorCsgM32
import Derived.Test.YtgoeiflddikihaaGreatDoorCsgM35
import Derived.Test.YtgoeiflddikihaaGreatDoorCsgM34
import Derived.Test.YtgoeiflddikihaaGreatDoorCsgM10
import Derived.Test.YtgoeiflddikihaaGreatDoorCsgM14
import Derived.Test.YtgoeiflddikihaaGreatDoorCsgM12
import Derived.RegionTactic
import Derived.BigRegion
import Derived.WalkLawsBesides
import Derived.Test.YtgoeiflddikihaaGreatDoorCsgM13
import Derived.Laws.OwnMore
import Derived.Laws.Tables
import Derived.Laws.CopyOwn
import Derived.Deep.MidRow
import Derived.Test.YtgoeiflddikihaaGreatDoorCsgM15
import Derived.Test.YtgoeiflddikihaaGreatDoorCsgM11
import Derived.Test.YtgoeiflddikihaaGreatDoorCsgM25
section
namespace Go.Proofs.YtgoeiflddikihaaGreatDoor.Ver
set_option linter.unusedSimpArgs false
set_option linter.unusedVariables false
open Go.Sort Go.RowKit Go.Proofs.YtgoeiflddikihaaGreatDoor.Dig Go.Proofs.YtgoeiflddikihaaGreatDoorW.PrintWords Go.Proofs.YtgoeiflddikihaaGreatDoor.Mem Go.Proofs.YtgoeiflddikihaaGreatDoor.Ord Go.Proofs.YtgoeiflddikihaaGreatDoor.PFnVersion
theorem split_join : ∀ (n : Nat) (l : List UInt8), l.length ≤ n → ∃ x r, qSplitOn 46 l = x :: r ∧ x ++ r.flatMap (fun y => 46 :: y) = l
  | 0, l, hn => by
    obtain rfl := List.length_eq_zero_iff.1 (Nat.le_zero.1 hn)
    exact ⟨[], [], rfl, rfl⟩
  | n + 1, l, hn => by
    obtain ⟨x, hx, h⟩ := qSplitOn_first 46 l
    rcases h with ⟨rfl, h⟩ | ⟨r, rfl, h⟩
    · exact ⟨l, [], h, by simp⟩
    · obtain ⟨y, r', h1, h2⟩ := split_join n r (by simp at hn; omega)
      exact ⟨x, y :: r', by rw [h, h1], by rw [List.flatMap_cons, ← h2]; simp⟩
end Go.Proofs.YtgoeiflddikihaaGreatDoor.Ver
end
section
namespace Go.Proofs.YtgoeiflddikihaaGreatDoor.Ver
set_option linter.unusedSimpArgs false
set_option linter.unusedVariables false
open Go.RowKit Go.Proofs.YtgoeiflddikihaaGreatDoor.Ord Go.Lib
def semC (c : UInt8) : Bool := isId c || c == 46 || c == 43
theorem mag_digits (M : Nat) : ∀ (l : List UInt8) (n u : Nat), parseUintM M n l = .ok u → ∀ c ∈ l, isDig c = true
  | [], _, _, _, c, hc => by cases hc
  | x :: r, n, u, h, c, hc => by
    rw [parseUintM] at h
    split at h
    · rename_i hd
      rcases List.mem_cons.1 hc with rfl | hc
      · unfold isDig; simp; omega
      · split at h
        · cases h
        · split at h
          · cases h
          · exact mag_digits M r _ u h c hc
    · cases h
theorem num_digits {l : List UInt8} {u : Nat} (h : qNumB l = some u) : ∀ c ∈ l, isDig c = true := by
  unfold qNumB at h
  split at h
  · rename_i u' hu
    unfold parseUintB at hu
    split at hu
    · cases hu
    · exact mag_digits _ l 0 _ hu
  · cases h
theorem nums_digits : ∀ {ps : List (List UInt8)} {ns : List Nat}, qNumsB ps = some ns → ∀ p ∈ ps, ∀ c ∈ p, isDig c = true
  | [], _, _, p, hp => by cases hp
  | x :: r, ns, h, p, hp => by
    rw [qNumsB] at h
    split at h
    · rename_i a b ha hb
      rcases List.mem_cons.1 hp with rfl | hp
      · exact num_digits ha
      · exact nums_digits hb p hp
    · cases h
theorem split_mem {l : List UInt8} {c : UInt8} (hc : c ∈ l) : c = 46 ∨ ∃ p ∈ qSplitOn 46 l, c ∈ p := by
  obtain ⟨x, r, h1, h2⟩ := split_join l.length l (Nat.le_refl _)
  rw [← h2] at hc
  rcases List.mem_append.1 hc with h | h
  · exact Or.inr ⟨x, by rw [h1]; exact List.mem_cons_self, h⟩
  · obtain ⟨y, hy, hcy⟩ := List.mem_flatMap.1 h
    rcases List.mem_cons.1 hcy with rfl | h
    · exact Or.inl rfl
    · exact Or.inr ⟨y, by rw [h1]; exact List.mem_cons_of_mem _ hy, h⟩
theorem idents_chars {l : List UInt8} (h : qIdentsB l = true) : ∀ c ∈ l, semC c = true := by
  intro c hc
  unfold qIdentsB at h
  rw [List.all_eq_true] at h
  unfold semC
  rcases split_mem hc with rfl | ⟨p, hp, hcp⟩
  · simp
  · have := h p hp
    rw [Bool.and_eq_true, List.all_eq_true] at this
    rw [this.2 c hcp]; rfl
theorem cut_join (c : UInt8) : ∀ l : List UInt8, l = (qCutAt c l).1 ++ (match (qCutAt c l).2 with | none => [] | some r => c :: r)
  | [] => rfl
  | x :: r => by
    rw [qCutAt]
    by_cases h : x = c
    · rw [if_pos h]; subst h; rfl
    · rw [if_neg h]
      have := cut_join c r
      show x :: r = (x :: (qCutAt c r).1) ++ _
      rw [List.cons_append, ← this]
theorem opt_chars {o : Option (List UInt8)} {x : List UInt8} (h : qOptB o = some x) : ∀ r, o = some r → ∀ c ∈ r, semC c = true := by
  rintro r rfl
  rw [qOptB] at h
  split at h
  · rename_i hi
    exact idents_chars hi
  · cases h
theorem cut_chars {s : UInt8} {l : List UInt8} (hs : semC s = true) (h1 : ∀ c ∈ (qCutAt s l).1, semC c = true) {x : List UInt8} (h2 : qOptB (qCutAt s l).2 = some x) : ∀ c ∈ l, semC c = true := by
  intro c hc
  rw [cut_join s l] at hc
  rcases List.mem_append.1 hc with h | h
  · exact h1 c h
  · cases ho : (qCutAt s l).2 with
    | none => rw [ho] at h; cases h
    | some r =>
      rw [ho] at h
      rcases List.mem_cons.1 h with rfl | h
      · exact hs
      · exact opt_chars h2 r ho c h
theorem sem_chars {l : List UInt8} (h : (qSemB0 l).isSome = true) : ∀ c ∈ l, semC c = true := by
  have key : ∀ c ∈ bare0 l, semC c = true := by
    unfold qSemB0 at h
    simp only at h
    split at h
    · cases h
    · rename_i mt hmt
      split at h
      · cases h
      · rename_i pre hpre
        split at h
        · cases h
        · split at h
          · cases h
          · rename_i ns hns
            refine cut_chars (s := 43) (by decide) ?_ hmt
            refine cut_chars (s := 45) (by decide) ?_ hpre
            intro c hc
            rcases split_mem hc with rfl | ⟨p, hp, hcp⟩
            · decide
            · have := nums_digits hns p hp c hcp
              unfold semC isId
              rw [this]; rfl
  intro c hc
  cases l with
  | nil => cases hc
  | cons x r =>
    have hb : bare0 (x :: r) = if x = 118 then r else x :: r := rfl
    rw [hb] at key
    by_cases hx : x = 118
    · rw [if_pos hx] at key
      rcases List.mem_cons.1 hc with rfl | hc
      · subst hx; decide
      · exact key c hc
    · rw [if_neg hx] at key
      exact key c hc
end Go.Proofs.YtgoeiflddikihaaGreatDoor.Ver
end
section
namespace Go.Proofs.YtgoeiflddikihaaGreatDoor.Ver
set_option linter.unusedSimpArgs false
set_option linter.unusedVariables false
open Go.RowKit Go.Proofs.YtgoeiflddikihaaGreatDoor.PFnIntersectAny Go.Proofs.YtgoeiflddikihaaGreatDoorW.PrintWords
def okP (x : Int) : Prop := (48 ≤ x ∧ x ≤ 57) ∨ x = 46 ∨ x = 120 ∨ x = 88 ∨ x = 42 ∨ x = 118
instance (x : Int) : Decidable (okP x) := by unfold okP; infer_instance
theorem plainN_step (s : ByteArray) (n j : Nat) (hs : s.size ≤ 1000000000000) (hj : j < s.size) : semver_plainNumbers.l0 (n + 1) s (j : Int) = if okP (bt s (j : Int)) then semver_plainNumbers.l0 n s ((j + 1 : Nat) : Int) else some false := by
  have w2 : wrap64 ((j : Int) + 1) = ((j + 1 : Nat) : Int) := by rw [wrap_in (by omega) (by omega)]; omega
  rw [semver_plainNumbers.l0, if_pos (by omega), if_pos (by omega), w2]
  generalize bt s (j : Int) = x
  generalize semver_plainNumbers.l0 n s ((j + 1 : Nat) : Int) = y
  by_cases h : okP x
  · rw [if_pos h]
    unfold okP at h
    repeat' split
    all_goals first | rfl | (exfalso; omega)
  · rw [if_neg h]
    unfold okP at h
    repeat' split
    all_goals first | rfl | (exfalso; omega)
theorem plainN_loop (s : ByteArray) (hs : s.size ≤ 1000000000000) (d : Nat) : ∀ j : Nat, j ≤ s.size → s.size - j = d → ∀ n, d < n → ∃ b, semver_plainNumbers.l0 n s (j : Int) = some b ∧ (b = true → ∀ i : Nat, j ≤ i → i < s.size → okP (bt s (i : Int))) := by
  induction d with
  | zero =>
    intro j hj hd n hn
    obtain ⟨n, rfl⟩ : ∃ i, n = i + 1 := ⟨n - 1, by omega⟩
    exact ⟨true, by rw [semver_plainNumbers.l0, if_neg (by omega)], fun _ i h1 h2 => by omega⟩
  | succ d ih =>
    intro j hj hd n hn
    obtain ⟨n, rfl⟩ : ∃ i, n = i + 1 := ⟨n - 1, by omega⟩
    rw [plainN_step s n j hs (by omega)]
    by_cases h : okP (bt s (j : Int))
    · rw [if_pos h]
      obtain ⟨b, h1, h2⟩ := ih (j + 1) (by omega) (by omega) n (by omega)
      refine ⟨b, h1, fun hb i hi1 hi2 => ?_⟩
      by_cases hij : i = j
      · subst hij; exact h
      · exact h2 hb i (by omega) hi2
    · rw [if_neg h]
      exact ⟨false, rfl, fun h => by cases h⟩
theorem bt_list (s : ByteArray) (i : Nat) (h : i < s.data.toList.length) : bt s (i : Int) = ((s.data.toList[i].toNat : Nat) : Int) := by
  have h' : i < s.size := by rw [Array.length_toList] at h; exact h
  unfold bt
  rw [Int.toNat_natCast, dif_pos h']
  rfl
end Go.Proofs.YtgoeiflddikihaaGreatDoor.Ver
end
section
namespace Go.Proofs.YtgoeiflddikihaaGreatDoor.Ver
set_option linter.unusedSimpArgs false
set_option linter.unusedVariables false
open Go.RowKit Go.Proofs.YtgoeiflddikihaaGreatDoor.Ord
theorem cut_none {s : UInt8} : ∀ {l : List UInt8}, s ∉ l → qCutAt s l = (l, none)
  | [], _ => rfl
  | x :: r, h => by
    have hx : x ≠ s := fun e => h (by rw [e]; exact List.mem_cons_self)
    rw [qCutAt, if_neg hx, cut_none (fun hr => h (List.mem_cons_of_mem _ hr))]
theorem bare_mem {l : List UInt8} {c : UInt8} (h : c ∈ bare0 l) : c ∈ l := by
  cases l with
  | nil => exact h
  | cons x r =>
    have hb : bare0 (x :: r) = if x = 118 then r else x :: r := rfl
    rw [hb] at h
    split at h
    · exact List.mem_cons_of_mem _ h
    · exact h
theorem bare_last {u : List UInt8} {a c : UInt8} : c ∈ bare0 (u ++ [a, c]) := by
  cases u with
  | nil =>
    show c ∈ (if a = 118 then [c] else [a, c])
    split <;> simp
  | cons x r =>
    show c ∈ (if x = 118 then r ++ [a, c] else x :: (r ++ [a, c]))
    split <;> simp
theorem plain_digits {l : List UInt8} (h : (qSemB0 l).isSome = true) (h1 : (43 : UInt8) ∉ l) (h2 : (45 : UInt8) ∉ l) : ∀ c ∈ bare0 l, c = 46 ∨ isDig c = true := by
  intro c hc
  have e1 := cut_none (s := 43) (l := bare0 l) (fun h => h1 (bare_mem h))
  have e2 := cut_none (s := 45) (l := bare0 l) (fun h => h2 (bare_mem h))
  unfold qSemB0 at h
  rw [e1] at h
  simp only [qOptB] at h
  rw [e2] at h
  simp only [qOptB] at h
  split at h
  · cases h
  · split at h
    · cases h
    · rename_i ns hns
      rcases split_mem hc with rfl | ⟨p, hp, hcp⟩
      · exact Or.inl rfl
      · exact Or.inr (nums_digits hns p hp c hcp)
theorem wild_sign {u : List UInt8} {c : UInt8} (hc : c = 120 ∨ c = 88 ∨ c = 42) (h : (qSemB0 (u ++ [46, c])).isSome = true) : (45 : UInt8) ∈ u ∨ (43 : UInt8) ∈ u := by
  by_cases h2 : (45 : UInt8) ∈ u
  · exact Or.inl h2
  · by_cases h1 : (43 : UInt8) ∈ u
    · exact Or.inr h1
    · exfalso
      have n1 : (43 : UInt8) ∉ u ++ [46, c] := by
        rw [List.mem_append]
        rintro (h | h)
        · exact h1 h
        · rcases hc with rfl | rfl | rfl <;> revert h <;> decide
      have n2 : (45 : UInt8) ∉ u ++ [46, c] := by
        rw [List.mem_append]
        rintro (h | h)
        · exact h2 h
        · rcases hc with rfl | rfl | rfl <;> revert h <;> decide
      rcases plain_digits h n1 n2 c bare_last with e | e
      · rcases hc with rfl | rfl | rfl <;> revert e <;> decide
      · rcases hc with rfl | rfl | rfl <;> revert e <;> decide
theorem not_wild {l : List UInt8} (h : (qSemB0 l).isSome = true) : l ≠ [] ∧ l ≠ [120] ∧ l ≠ [88] ∧ l ≠ [42] := by
  refine ⟨?_, ?_, ?_, ?_⟩ <;> (rintro rfl; revert h; decide)
end Go.Proofs.YtgoeiflddikihaaGreatDoor.Ver
end
section
namespace Go.Proofs.YtgoeiflddikihaaGreatDoor.Ver
set_option linter.unusedSimpArgs false
set_option linter.unusedVariables false
open Go.RowKit Go.Proofs.YtgoeiflddikihaaGreatDoor.Dig Go.Proofs.YtgoeiflddikihaaGreatDoorW.PrintWords Go.Proofs.YtgoeiflddikihaaGreatDoor.PFnIntersectAny Go.Proofs.YtgoeiflddikihaaGreatDoor.Ord
theorem at_list (t : ByteArray) (i : Nat) (h : i < t.size) : t.data.toList[i]? = some t[i] := by
  rw [Array.getElem?_toList]
  exact Array.getElem?_eq_getElem h
theorem wild_at (t : ByteArray) (hs : (qSemB0 t.data.toList).isSome = true) (h : 2 < t.size) (hp : t[t.size - 2].toNat = 46) (hc : t[t.size - 1].toNat = 120 ∨ t[t.size - 1].toNat = 88 ∨ t[t.size - 1].toNat = 42) :
    (45 : UInt8) ∈ (t.extract 0 (t.size - 2)).data.toList ∨ (43 : UInt8) ∈ (t.extract 0 (t.size - 2)).data.toList := by
  have hl : t.data.toList.length = t.size := by rw [Array.length_toList]; rfl
  have e1 : (t.extract 0 (t.size - 2)).data.toList = t.data.toList.take (t.size - 2) := by simp
  have e2 : t.data.toList = t.data.toList.take (t.size - 2) ++ [46, t[t.size - 1]] := by
    have a1 := at_list t (t.size - 2) (by omega)
    have a2 := at_list t (t.size - 1) (by omega)
    have hp' : t[t.size - 2] = (46 : UInt8) := UInt8.toNat_inj.1 hp
    rw [hp'] at a1
    refine List.ext_getElem? fun i => ?_
    by_cases h1 : i < t.size - 2
    · rw [List.getElem?_append_left (by rw [List.length_take]; omega), List.getElem?_take_of_lt h1]
    · rw [List.getElem?_append_right (by rw [List.length_take]; omega), List.length_take, Nat.min_eq_left (by omega)]
      by_cases h2 : i = t.size - 2
      · subst h2; rw [a1]; simp
      · by_cases h3 : i = t.size - 1
        · subst h3
          rw [a2]
          have : t.size - 1 - (t.size - 2) = 1 := by omega
          rw [this]; rfl
        · rw [List.getElem?_eq_none (by omega), List.getElem?_eq_none (by simp; omega)]
  rw [e1]
  refine wild_sign (c := t[t.size - 1]) ?_ (by rw [← e2]; exact hs)
  rcases hc with h | h | h
  · exact Or.inl (UInt8.toNat_inj.1 h)
  · exact Or.inr (Or.inl (UInt8.toNat_inj.1 h))
  · exact Or.inr (Or.inr (UInt8.toNat_inj.1 h))
end Go.Proofs.YtgoeiflddikihaaGreatDoor.Ver
end
section
namespace Go.Proofs.YtgoeiflddikihaaGreatDoor.Ver
set_option linter.unusedSimpArgs false
set_option linter.unusedVariables false
open Go.RowKit Go.Proofs.YtgoeiflddikihaaGreatDoor.Dig Go.Proofs.YtgoeiflddikihaaGreatDoorW.PrintWords Go.Proofs.YtgoeiflddikihaaGreatDoor.PFnIntersectAny Go.Proofs.YtgoeiflddikihaaGreatDoor.Ord Go.Proofs.YtgoeiflddikihaaGreatDoor.Mem
def plainB (s : ByteArray) : Bool := semver_plainNumbers.f (s.size + 1) s == some true
theorem plainB_calls (s : ByteArray) (hs : s.size ≤ 1000000000000) (W : World) : Calls Tryz.prog 155 #[.string s] W fun e w' => e = .returned (.bool (plainB s)) ∧ Drawn0 W w' := by
  obtain ⟨b, h1, _⟩ := plainN_loop s hs s.size 0 (Nat.zero_le _) (by omega) (s.size + 1) (by omega)
  have hf : semver_plainNumbers.f (s.size + 1) s = some b := h1
  have hb : plainB s = b := by unfold plainB; rw [hf]; cases b <;> rfl
  rw [hb]
  exact semver_plainNumbers.calls _ s b W hf
def wildC (c : UInt8) : Bool := c == 120 || (c == 88 || c == 42)
def stripQ (s : ByteArray) : Bool := if h : 2 < s.size then (s[s.size - 2]'(by omega) == 46 && wildC (s[s.size - 1]'(by omega))) && plainB (s.extract 0 (s.size - 2)) else false
def stripW : Nat → ByteArray → ByteArray
  | 0, s => s
  | n + 1, s => if stripQ s then stripW n (s.extract 0 (s.size - 2)) else s
theorem strip_size {s : ByteArray} (h : stripQ s = true) : (s.extract 0 (s.size - 2)).size + 2 = s.size ∧ 2 < s.size := by
  unfold stripQ at h
  split at h
  · rename_i h2
    rw [ByteArray.size_extract]
    exact ⟨by omega, h2⟩
  · cases h
theorem stripW_more : ∀ (n m : Nat) (s : ByteArray), s.size ≤ n → s.size ≤ m → stripW n s = stripW m s
  | 0, m, s, h, _ => by
    have h0 : stripQ s = false := by unfold stripQ; rw [dif_neg (by omega)]
    cases m with
    | zero => rfl
    | succ m => rw [stripW, stripW, h0]; rfl
  | n + 1, m, s, h, h2 => by
    cases hq : stripQ s with
    | false =>
      cases m with
      | zero => rw [stripW, stripW, hq]; rfl
      | succ m => rw [stripW, stripW, hq]; rfl
    | true =>
      obtain ⟨e, h3⟩ := strip_size hq
      cases m with
      | zero => omega
      | succ m =>
        rw [stripW, stripW, hq, if_pos rfl, if_pos rfl]
        exact stripW_more n m _ (by omega) (by omega)
def stripA (s : ByteArray) : ByteArray := stripW s.size s
theorem stripA_no {s : ByteArray} (h : stripQ s = false) : stripA s = s := by
  unfold stripA
  cases hs : s.size with
  | zero => rfl
  | succ n => rw [stripW, h]; rfl
theorem stripA_yes {s : ByteArray} (h : stripQ s = true) : stripA s = stripA (s.extract 0 (s.size - 2)) := by
  obtain ⟨e, h3⟩ := strip_size h
  unfold stripA
  obtain ⟨n, hn⟩ : ∃ n, s.size = n + 1 := ⟨s.size - 1, by omega⟩
  rw [hn, stripW, h, if_pos rfl, ← hn]
  exact stripW_more _ _ _ (by omega) (Nat.le_refl _)
def partV (s : ByteArray) : Option (SV × Nat) :=
  if s.toList = [] then none else if s.toList = [120] ∨ s.toList = [88] ∨ s.toList = [42] then some (zVd, 0) else readV (stripA s)
end Go.Proofs.YtgoeiflddikihaaGreatDoor.Ver
end
section
namespace Go.Proofs.YtgoeiflddikihaaGreatDoor.Ver
set_option linter.unusedSimpArgs false
set_option linter.unusedVariables false
open Go.RowKit Go.Proofs.YtgoeiflddikihaaGreatDoorW.PrintWords Go.Proofs.YtgoeiflddikihaaGreatDoor.Mem Go.Proofs.YtgoeiflddikihaaGreatDoor.Ord
def isSg (c : UInt8) : Bool := c == 61 || (c == 33 || (c == 60 || (c == 62 || (c == 126 || c == 94))))
def sgL : Bs → Bs
  | [] => []
  | c :: l => if isSg c then c :: sgL l else []
def unSgL : Bs → Bs
  | [] => []
  | c :: l => if isSg c then unSgL l else c :: l
theorem sg_app : ∀ l : Bs, sgL l ++ unSgL l = l
  | [] => rfl
  | c :: l => by
    rw [sgL, unSgL]
    split
    · rw [List.cons_append, sg_app l]
    · rfl
theorem unSgL_len : ∀ l : Bs, (unSgL l).length ≤ l.length
  | [] => Nat.le_refl _
  | c :: l => by
    rw [unSgL]
    split
    · exact Nat.le_succ_of_le (unSgL_len l)
    · exact Nat.le_refl _
def u64w (x : Int) : Int := IntKind.u64.wrap x
theorem u64w_in (x : Int) : 0 ≤ u64w x ∧ u64w x < 18446744073709551616 := by
  unfold u64w
  simp [IntKind.wrap, IntKind.bits, IntKind.signed]
  omega
def afterV (v : SV) (n : Nat) : SV := if n = 1 then ⟨u64w (v.major + 1), 0, 0, ⟨#[]⟩, ⟨#[]⟩, ⟨#[]⟩⟩ else if n = 2 then ⟨v.major, u64w (v.minor + 1), 0, ⟨#[]⟩, ⟨#[]⟩, ⟨#[]⟩⟩ else ⟨v.major, v.minor, u64w (v.patch + 1), ⟨#[]⟩, ⟨#[]⟩, ⟨#[]⟩⟩
theorem afterV_ok {v : SV} (h : SVok v) (n : Nat) : SVok (afterV v n) := by
  unfold afterV
  have e : (⟨#[]⟩ : ByteArray).size ≤ 4294967296 := by decide
  have z0 : (0 : Int) ≤ 0 := by decide
  have z1 : (0 : Int) < 18446744073709551616 := by decide
  split
  · exact ⟨(u64w_in _).1, (u64w_in _).2, z0, z1, z0, z1, e, e⟩
  · split
    · exact ⟨h.a0, h.a1, (u64w_in _).1, (u64w_in _).2, z0, z1, e, e⟩
    · exact ⟨h.a0, h.a1, h.b0, h.b1, (u64w_in _).1, (u64w_in _).2, e, e⟩
def caretN (v : SV) (n : Nat) : Nat := if v.major = 0 ∧ 1 < n then (if v.minor = 0 ∧ 2 < n then 3 else 2) else 1
def loP (v : SV) : PD := { zPD with lo := v, hl := true, wl := true }
def hiP (v : SV) : PD := { zPD with hi := v, hh := true }
def inP (v u : SV) : PD := { zPD with lo := v, hl := true, wl := true, hi := u, hh := true }
def termD (op : Bs) (v : SV) (n : Nat) : Option CnD :=
  if n = 0 then
    (if op = [] ∨ op = [61] ∨ op = [62, 61] ∨ op = [61, 62] ∨ op = [60, 61] ∨ op = [61, 60] ∨ op = [126] ∨ op = [126, 62] ∨ op = [94] then some (.rng [zPD])
     else if op = [33, 61] ∨ op = [60] ∨ op = [62] then some (.rng []) else none)
  else if op = [] ∨ op = [61] then some (if n = 3 then .ver v else .rng [inP v (afterV v n)])
  else if op = [33, 61] then some (.rng (if n = 3 then [{ zPD with but := [v] }] else [hiP v, loP (afterV v n)]))
  else if op = [62] then some (.rng (if n = 3 then [{ zPD with lo := v, hl := true }] else [loP (afterV v n)]))
  else if op = [62, 61] ∨ op = [61, 62] then some (.rng [loP v])
  else if op = [60] then some (.rng [hiP v])
  else if op = [60, 61] ∨ op = [61, 60] then some (.rng (if n = 3 then [{ hiP v with wh := true }] else [hiP (afterV v n)]))
  else if op = [126] ∨ op = [126, 62] then some (.rng [inP v (afterV v (min n 2))])
  else if op = [94] then some (.rng [inP v (afterV v (caretN v n))])
  else none
def read1D (t : ByteArray) (caret : Bool) : Option CnD :=
  match partV (trimD (mkT (unSgL t.data.toList))) with
  | none => none
  | some (v, n) => termD (if sgL t.data.toList = [] ∧ caret = true then [94] else sgL t.data.toList) v n
def meetC (a b : CnD) : CnD := match a with
  | .ver u => isectV u b
  | .rng l => isectD l b
def termsD (caret : Bool) : CnD → List ByteArray → Option CnD
  | acc, [] => some acc
  | acc, t :: l => match read1D (trimD t) caret with
    | none => none
    | some c => termsD caret (meetC acc c) l
def altD (a : ByteArray) (caret : Bool) : Option CnD := termsD caret (.rng [zPD]) (splitD ⟨#[44]⟩ a)
def piecesD : CnD → List PD
  | .ver v => [{ zPD with lo := v, hi := v, hl := true, hh := true, wl := true, wh := true }]
  | .rng l => l
def altsD (caret : Bool) : List PD → Option CnD → List ByteArray → Option (List PD × Option CnD)
  | acc, o, [] => some (acc, o)
  | acc, o, a :: l => match altD a caret with
    | none => none
    | some c => altsD caret (acc ++ piecesD c) (some c) l
end Go.Proofs.YtgoeiflddikihaaGreatDoor.Ver
end
