/- Merged by program out of: AwakeS, Vars, Head, VOrd, Mem, Shelf, Mem2. -/
import Derived.Sort.Statements
import Derived.Test.YtgoeiflddikihaaGreatDoorProg
import Derived.Below
import Derived.Lib.LaidTab
import Derived.Lib.ItoaNum
import Derived.JoinedOf
import Derived.JoinedCond
import Derived.ProofKit
import Derived.WalkKit
import Derived.Deep.MidRow
import Derived.Great.Walk
import Derived.Lib.Hide
import Derived.Shelf.Strconv.Itoa0
import Derived.Shelf.Strconv.Itoa1
import Derived.Shelf.LaysM
import Derived.Shelf.Strconv.Itoa2
import Derived.Shelf.Strconv.Itoa3
import Derived.Shelf.Strconv.Clone
import Derived.Shelf.Strconv.SyntaxError
import Derived.Shelf.LaysC
import Derived.Shelf.Strconv.ToError
import Derived.Shelf.Strconv.Lower
import Derived.Shelf.Strconv.ParseUint10
import Derived.Shelf.Strconv.ParseUint10Empty
import Derived.Shelf.Strconv.ParseUint10Any
import Derived.Shelf.Strconv.RangeError
import Derived.Shelf.Strconv.ToErrorRange
import Derived.Ground.MpProg
import Derived.Shelf.Pu.ParseUintPublic10
import Derived.Shelf.Pu.ErrVarParseUint
import Derived.Test.YtgoeiflddikihaaGreatDoorCsgM0
section
namespace Go.Proofs.YtgoeiflddikihaaGreatDoor.Awk
open Go.Sort
theorem three {α : Type} [Inhabited α] {lt : α → α → Bool} (h : SWO lt) {c0 c1 c2 : α} (h21 : lt c2 c1 = true) (h20 : lt c2 c0 = true) (h10 : lt c1 c0 = true) {d' : Array α} (hp : PermIn 0 3 #[c0, c1, c2] d') (hs : SortedIn lt 0 3 d') :
    d' = #[c2, c1, c0] := by
  obtain ⟨hsz, _, hpm⟩ := hp
  have hsz3 : d'.size = 3 := hsz
  obtain ⟨l⟩ := d'
  have hl : l.length = 3 := hsz3
  match l, hl with
  | [x, y, z], _ =>
    have hpm' : [x, y, z].Perm [c0, c1, c2] := by simpa using hpm
    have s1 : lt y x = false := by simpa using hs 0 1 (by omega) (by omega) (by omega)
    have s2 : lt z x = false := by simpa using hs 0 2 (by omega) (by omega) (by omega)
    have s3 : lt z y = false := by simpa using hs 1 2 (by omega) (by omega) (by omega)
    have n01 : c0 ≠ c1 := fun e => by rw [e, h.irrefl] at h10; cases h10
    have n02 : c0 ≠ c2 := fun e => by rw [e, h.irrefl] at h20; cases h20
    have n12 : c1 ≠ c2 := fun e => by rw [e, h.irrefl] at h21; cases h21
    have hx : x ∈ [c0, c1, c2] := hpm'.mem_iff.1 (by simp)
    have hy : y ∈ [c0, c1, c2] := hpm'.mem_iff.1 (by simp)
    have hz : z ∈ [c0, c1, c2] := hpm'.mem_iff.1 (by simp)
    have k0 : c0 ∈ [x, y, z] := hpm'.mem_iff.2 (by simp)
    have k1 : c1 ∈ [x, y, z] := hpm'.mem_iff.2 (by simp)
    have k2 : c2 ∈ [x, y, z] := hpm'.mem_iff.2 (by simp)
    simp only [List.mem_cons, List.not_mem_nil, or_false] at hx hy hz
    rcases hx with rfl | rfl | rfl <;> rcases hy with rfl | rfl | rfl <;> rcases hz with rfl | rfl | rfl <;>
      first
        | rfl
        | (exfalso; simp [n01, n02, n12, n01.symm, n02.symm, n12.symm] at k0 k1 k2; done)
        | (exfalso; simp_all; done)
end Go.Proofs.YtgoeiflddikihaaGreatDoor.Awk
end
section
namespace Go.Proofs.YtgoeiflddikihaaGreatDoor.Dig
open Go.RowKit
structure Vars (w : World) : Prop where
  syn : ∃ (tp : TypeId) (p : Value), w.var? Tryz.prog "strconv.ErrSyntax" = some #[.iface tp p]
  rng : ∃ (tp : TypeId) (p : Value), w.var? Tryz.prog "strconv.ErrRange" = some #[.iface tp p]
  tab : Lib.TabIs Tryz.prog w "internal/strconv.uint64pow10" .u64 Lib.pow10Tab
theorem var_below {P : Program} {w w' : World} {name : String} {cs : Array Value} (h : w.var? P name = some cs) (hb : Below w.heap.size w w') : w'.var? P name = some cs := by
  unfold World.var? at *
  obtain ⟨g, hg, h⟩ := Option.bind_eq_some_iff.1 h
  rw [hg, Option.bind_some]
  have hlt : g < w.heap.size := by
    rcases Nat.lt_or_ge g w.heap.size with h1 | h1
    · exact h1
    · rw [Array.getElem?_eq_none h1] at h; cases h
  rw [hb.block g hlt]; exact h
theorem Vars.below {w w' : World} (h : Vars w) (hb : Below w.heap.size w w') : Vars w' := by
  obtain ⟨⟨t1, p1, h1⟩, ⟨t2, p2, h2⟩, h3⟩ := h
  exact ⟨⟨t1, p1, var_below h1 hb⟩, ⟨t2, p2, var_below h2 hb⟩, var_below h3 hb⟩
end Go.Proofs.YtgoeiflddikihaaGreatDoor.Dig
end
section
namespace Go.Proofs.YtgoeiflddikihaaGreatDoorW.Head
open Go
theorem words_step (w r : List Char) (hw : w.all (· != ' ') = true) : wordsSigns (w ++ ' ' :: r) = w :: wordsSigns r := by
  induction w with
  | nil => rfl
  | cons c w ih =>
    simp only [List.all_cons, Bool.and_eq_true] at hw
    have hc : c ≠ ' ' := by simpa using hw.1
    show wordsSigns (c :: (w ++ ' ' :: r)) = _
    rw [wordsSigns.eq_def]
    split
    · next h => cases h
    · next h => cases h; exact absurd rfl hc
    · next c' r' _ h => cases h; rw [ih hw.2]
theorem sum_plain {s : List Char} (h : isSumSigns s = true) : s.all (· != ' ') = true := by
  unfold isSumSigns at h
  simp only [Bool.and_eq_true] at h
  rw [List.all_eq_true] at *
  intro c hc
  have := h.2 c hc
  rw [bne_iff_ne]
  rintro rfl
  revert this
  decide
structure Cut (P : Program) (s : List Char) : Prop where
  words : ∃ r, behindMainWord (wordsSigns P.initOrder.toList) = "cut".toList :: r
  main : P.mainIs = some (true, s)
theorem cut_of {P : Program} {s r : List Char} (h : P.initOrder.toList = "harness".toList ++ ' ' :: (s ++ ' ' :: ("cut".toList ++ ' ' :: r))) (hs : isSumSigns s = true) : Cut P s := by
  have e : wordsSigns P.initOrder.toList = "harness".toList :: s :: "cut".toList :: wordsSigns r := by
    rw [h, words_step _ _ (by decide), words_step _ _ (sum_plain hs), words_step _ _ (by decide)]
  constructor
  · refine ⟨wordsSigns r, ?_⟩
    rw [e]
    show (if (("harness".toList == "harness".toList || _) && isSumSigns s) = true then _ else _) = _
    rw [hs]; simp
  · unfold Program.mainIs
    rw [e]; simp [hs]
variable {P : Program} {s : List Char}
theorem strip (r : List (List Char)) : stripLifts liftWords ("cut".toList :: r) = ([], "cut".toList :: r) := by
  have go : ∀ l : List String, (∀ o ∈ l, ("cut".toList == o.toList) = false) → stripLifts l ("cut".toList :: r) = ([], "cut".toList :: r) := by
    intro l hl
    induction l with
    | nil => rfl
    | cons o os ih =>
      unfold stripLifts
      rw [hl o (by simp), ih (fun o ho => hl o (by simp [ho]))]
      rfl
  exact go _ (by decide)
theorem Cut.lifts (h : Cut P s) : P.headLifts = [] := by
  obtain ⟨r, hr⟩ := h.words
  unfold Program.headLifts
  rw [hr, strip]; simp
theorem Cut.final (h : Cut P s) : P.liftsFinal = false := by
  have hl := h.lifts
  obtain ⟨r, hr⟩ := h.words
  unfold Program.liftsFinal
  rw [hr, hl]
  simp
theorem Cut.make (h : Cut P s) : P.make = some .cut := by
  obtain ⟨r, hr⟩ := h.words
  unfold Program.make
  rw [hr]
  simp
theorem Cut.enter (h : Cut P s) (hl : P.laysLater = false) (hb : P.bearsReflect = false) (hd : P.doorFits [] = true) : P.mayEnter = true := by
  obtain ⟨r, hr⟩ := h.words
  unfold Program.mayEnter
  rw [hr]
  show (_ || _ || _) = true
  rw [strip, hl, hb]
  simp [hd]
end Go.Proofs.YtgoeiflddikihaaGreatDoorW.Head
end
section
namespace Go.Proofs.YtgoeiflddikihaaGreatDoor.Ord
structure Cmp {α : Type} (c : α → α → Int) : Prop where
  anti : ∀ a b, c b a = - c a b
  trans : ∀ a b d, c a b ≤ 0 → c b d ≤ 0 → c a d ≤ 0
namespace Cmp
variable {α β : Type} {c : α → α → Int}
theorem refl (h : Cmp c) (a : α) : c a a = 0 := by have := h.anti a a; omega
theorem eq_trans (h : Cmp c) {a b d : α} (h1 : c a b = 0) (h2 : c b d = 0) : c a d = 0 := by
  have a1 := h.trans a b d (by omega) (by omega)
  have a2 := h.trans d b a (by have := h.anti b d; omega) (by have := h.anti a b; omega)
  have := h.anti a d
  omega
theorem lt_le (h : Cmp c) {a b d : α} (h1 : c a b < 0) (h2 : c b d ≤ 0) : c a d < 0 := by
  have a1 := h.trans a b d (by omega) h2
  rcases Int.lt_or_eq_of_le a1 with h3 | h3
  · exact h3
  · have a2 := h.trans b d a h2 (by have := h.anti a d; omega)
    have := h.anti a b
    omega
theorem le_lt (h : Cmp c) {a b d : α} (h1 : c a b ≤ 0) (h2 : c b d < 0) : c a d < 0 := by
  have a1 := h.trans a b d h1 (by omega)
  rcases Int.lt_or_eq_of_le a1 with h3 | h3
  · exact h3
  · have a2 := h.trans d a b (by have := h.anti a d; omega) h1
    have := h.anti b d
    omega
end Cmp
def thenC {α : Type} (c d : α → α → Int) (a b : α) : Int := if c a b = 0 then d a b else c a b
theorem cmp_then {α : Type} {c d : α → α → Int} (h : Cmp c) (k : Cmp d) : Cmp (thenC c d) := by
  refine ⟨fun a b => ?_, fun a b e h1 h2 => ?_⟩
  · unfold thenC
    have h1 := h.anti a b
    have h2 := k.anti a b
    by_cases hc : c a b = 0
    · rw [if_pos hc, if_pos (by omega)]; exact h2
    · rw [if_neg hc, if_neg (by omega)]; exact h1
  · unfold thenC at h1 h2 ⊢
    by_cases hc : c a b = 0
    · rw [if_pos hc] at h1
      by_cases hd : c b e = 0
      · rw [if_pos hd] at h2
        rw [if_pos (h.eq_trans hc hd)]
        exact k.trans a b e h1 h2
      · rw [if_neg hd] at h2
        have := h.le_lt (a := a) (b := b) (d := e) (by omega) (by omega)
        rw [if_neg (by omega)]; omega
    · rw [if_neg hc] at h1
      have h3 : c b e ≤ 0 := by
        by_cases hd : c b e = 0
        · omega
        · rw [if_neg hd] at h2; exact h2
      have := h.lt_le (a := a) (b := b) (d := e) (by omega) h3
      rw [if_neg (by omega)]; omega
def onC {α β : Type} (f : α → β) (c : β → β → Int) (a b : α) : Int := c (f a) (f b)
theorem cmp_on {α β : Type} {c : β → β → Int} (f : α → β) (h : Cmp c) : Cmp (onC f c) := ⟨fun _ _ => h.anti _ _, fun _ _ _ => h.trans _ _ _⟩
def natC (a b : Nat) : Int := if a < b then -1 else if b < a then 1 else 0
theorem cmp_nat : Cmp natC := by
  refine ⟨fun a b => ?_, fun a b d h1 h2 => ?_⟩
  · unfold natC; split <;> split <;> first | rfl | omega
  · unfold natC at *; repeat' split
    all_goals (first | omega | (repeat' split at h1) <;> (repeat' split at h2) <;> omega)
def intC (a b : Int) : Int := if a < b then -1 else if b < a then 1 else 0
theorem cmp_int : Cmp intC := by
  refine ⟨fun a b => ?_, fun a b d h1 h2 => ?_⟩
  · unfold intC; split <;> split <;> first | rfl | omega
  · unfold intC at *; repeat' split
    all_goals (first | omega | (repeat' split at h1) <;> (repeat' split at h2) <;> omega)
def listC {α : Type} (c : α → α → Int) : List α → List α → Int
  | [], [] => 0
  | [], _ :: _ => -1
  | _ :: _, [] => 1
  | a :: x, b :: y => if c a b = 0 then listC c x y else c a b
theorem listC_anti {α : Type} {c : α → α → Int} (h : Cmp c) : ∀ a b, listC c b a = - listC c a b
  | [], [] => rfl
  | [], _ :: _ => rfl
  | _ :: _, [] => rfl
  | a :: x, b :: y => by
    unfold listC
    have h1 := h.anti a b
    have h2 := listC_anti h x y
    by_cases hc : c a b = 0
    · rw [if_pos hc, if_pos (by omega)]; exact h2
    · rw [if_neg hc, if_neg (by omega)]; exact h1
theorem listC_trans {α : Type} {c : α → α → Int} (h : Cmp c) : ∀ a b d, listC c a b ≤ 0 → listC c b d ≤ 0 → listC c a d ≤ 0
  | [], _, [], _, _ => by simp [listC]
  | [], _, _ :: _, _, _ => by simp [listC]
  | _ :: _, [], _, h1, _ => by simp [listC] at h1
  | _ :: _, _ :: _, [], _, h2 => by simp [listC] at h2
  | a :: x, b :: y, e :: z, h1, h2 => by
    unfold listC at h1 h2 ⊢
    by_cases hc : c a b = 0
    · rw [if_pos hc] at h1
      by_cases hd : c b e = 0
      · rw [if_pos hd] at h2
        rw [if_pos (h.eq_trans hc hd)]
        exact listC_trans h x y z h1 h2
      · rw [if_neg hd] at h2
        have := h.le_lt (a := a) (b := b) (d := e) (by omega) (by omega)
        rw [if_neg (by omega)]; omega
    · rw [if_neg hc] at h1
      have h3 : c b e ≤ 0 := by
        by_cases hd : c b e = 0
        · omega
        · rw [if_neg hd] at h2; exact h2
      have := h.lt_le (a := a) (b := b) (d := e) (by omega) h3
      rw [if_neg (by omega)]; omega
theorem cmp_list {α : Type} {c : α → α → Int} (h : Cmp c) : Cmp (listC c) := ⟨listC_anti h, listC_trans h⟩
theorem listC_eq {α : Type} {c : α → α → Int} (he : ∀ a b, c a b = 0 → a = b) : ∀ a b, listC c a b = 0 → a = b
  | [], [], _ => rfl
  | [], _ :: _, h => by simp [listC] at h
  | _ :: _, [], h => by simp [listC] at h
  | a :: x, b :: y, h => by
    unfold listC at h
    by_cases hc : c a b = 0
    · rw [if_pos hc] at h
      rw [he a b hc, listC_eq he x y h]
    · rw [if_neg hc] at h; exact absurd h hc
def byteC (a b : UInt8) : Int := natC a.toNat b.toNat
theorem cmp_byte : Cmp byteC := cmp_on UInt8.toNat cmp_nat
theorem natC_eq {a b : Nat} (h : natC a b = 0) : a = b := by
  unfold natC at h; split at h
  · cases h
  · split at h
    · cases h
    · omega
theorem byteC_eq (a b : UInt8) (h : byteC a b = 0) : a = b := UInt8.toNat_inj.1 (natC_eq h)
def bytesC : List UInt8 → List UInt8 → Int := listC byteC
theorem cmp_bytes : Cmp bytesC := cmp_list cmp_byte
theorem bytesC_eq {a b : List UInt8} (h : bytesC a b = 0) : a = b := listC_eq byteC_eq a b h
theorem bytesC_less : ∀ a b, (bytesC a b < 0 ↔ Op.bytesLess a b = true)
  | [], [] => by simp [bytesC, listC, Op.bytesLess]
  | [], _ :: _ => by simp [bytesC, listC, Op.bytesLess]
  | _ :: _, [] => by simp [bytesC, listC, Op.bytesLess]
  | a :: x, b :: y => by
    have ih := bytesC_less x y
    unfold bytesC at ih ⊢
    unfold listC Op.bytesLess
    by_cases hc : byteC a b = 0
    · rw [if_pos hc]
      have := byteC_eq a b hc
      subst this
      simp only [Bool.or_eq_true, decide_eq_true_eq, Bool.and_eq_true, beq_self_eq_true, true_and]
      rw [ih]
      constructor
      · exact Or.inr
      · rintro (h | h)
        · exact absurd h (by rw [UInt8.lt_iff_toNat_lt]; omega)
        · exact h
    · rw [if_neg hc]
      have hne : (a == b) = false := beq_eq_false_iff_ne.2 (fun e => hc (by rw [e]; exact cmp_byte.refl b))
      rw [hne]
      simp only [Bool.false_and, Bool.or_false, decide_eq_true_eq]
      rw [UInt8.lt_iff_toNat_lt]
      unfold byteC natC
      unfold byteC natC at hc
      by_cases h1 : a.toNat < b.toNat
      · rw [if_pos h1]; simp [h1]
      · rw [if_neg h1]
        by_cases h2 : b.toNat < a.toNat
        · rw [if_pos h2]; simp [h1]
        · rw [if_neg h1, if_neg h2] at hc; exact absurd rfl hc
theorem natC_val (a b : Nat) : natC a b = -1 ∨ natC a b = 0 ∨ natC a b = 1 := by
  unfold natC; split
  · exact Or.inl rfl
  · split
    · exact Or.inr (Or.inr rfl)
    · exact Or.inr (Or.inl rfl)
theorem listC_val {α : Type} {c : α → α → Int} (hc : ∀ a b, c a b = -1 ∨ c a b = 0 ∨ c a b = 1) : ∀ a b, listC c a b = -1 ∨ listC c a b = 0 ∨ listC c a b = 1
  | [], [] => by simp [listC]
  | [], _ :: _ => by simp [listC]
  | _ :: _, [] => by simp [listC]
  | a :: x, b :: y => by
    unfold listC; split
    · exact listC_val hc x y
    · exact hc a b
theorem bytesC_val (a b : List UInt8) : bytesC a b = -1 ∨ bytesC a b = 0 ∨ bytesC a b = 1 := listC_val (fun _ _ => natC_val _ _) a b
theorem bytesC_form (a b : List UInt8) : bytesC a b = if Op.bytesLess a b then -1 else if a = b then 0 else 1 := by
  have h1 := bytesC_less a b
  by_cases hl : Op.bytesLess a b = true
  · rw [if_pos hl]
    rcases bytesC_val a b with h | h | h
    · exact h
    · have := h1.2 hl; omega
    · have := h1.2 hl; omega
  · rw [if_neg hl]
    by_cases he : a = b
    · rw [if_pos he, he]; exact cmp_bytes.refl b
    · rw [if_neg he]
      rcases bytesC_val a b with h | h | h
      · exact absurd (h1.1 (by omega)) hl
      · exact absurd (bytesC_eq h) he
      · exact h
def isDig (c : UInt8) : Bool := decide (48 ≤ c.toNat) && decide (c.toNat ≤ 57)
def idNum (l : List UInt8) : Bool := !l.isEmpty && l.all isDig
def bareZ : List UInt8 → List UInt8
  | c :: d :: r => if c = 48 then bareZ (d :: r) else c :: d :: r
  | l => l
def idKey (l : List UInt8) : Nat × Nat × List UInt8 := if idNum l then (0, (bareZ l).length, bareZ l) else (1, 0, l)
def keyC : Nat × Nat × List UInt8 → Nat × Nat × List UInt8 → Int := thenC (onC (·.1) natC) (thenC (onC (·.2.1) natC) (onC (·.2.2) bytesC))
def idC : List UInt8 → List UInt8 → Int := onC idKey keyC
theorem cmp_id : Cmp idC := cmp_on _ (cmp_then (cmp_on _ cmp_nat) (cmp_then (cmp_on _ cmp_nat) (cmp_on _ cmp_bytes)))
theorem idC_nn {a b : List UInt8} (ha : idNum a = true) (hb : idNum b = true) : idC a b = if (bareZ a).length = (bareZ b).length then bytesC (bareZ a) (bareZ b) else if (bareZ a).length < (bareZ b).length then -1 else 1 := by
  simp only [idC, onC, keyC, thenC, idKey, ha, hb, if_true]
  have e : natC 0 0 = 0 := rfl
  rw [if_pos e]
  by_cases h : (bareZ a).length = (bareZ b).length
  · rw [if_pos h, h, if_pos (cmp_nat.refl _)]
  · rw [if_neg h, if_neg (fun e => h (natC_eq e))]
    unfold natC
    split
    · rfl
    · rw [if_pos (by omega)]
theorem idC_na {a b : List UInt8} (ha : idNum a = true) (hb : idNum b = false) : idC a b = -1 := by
  simp only [idC, onC, keyC, thenC, idKey, ha, hb, if_true]; rfl
theorem idC_an {a b : List UInt8} (ha : idNum a = false) (hb : idNum b = true) : idC a b = 1 := by
  simp only [idC, onC, keyC, thenC, idKey, ha, hb, if_true]; rfl
theorem idC_aa {a b : List UInt8} (ha : idNum a = false) (hb : idNum b = false) : idC a b = bytesC a b := by
  simp only [idC, onC, keyC, thenC, idKey, ha, hb]; rfl
def firstI (l : List UInt8) : List UInt8 := l.takeWhile (· != 46)
def restI (l : List UInt8) : List UInt8 := (l.dropWhile (· != 46)).drop 1
theorem restI_lt {l : List UInt8} (h : l ≠ []) : (restI l).length < l.length := by
  unfold restI
  have h1 := (List.dropWhile_sublist (l := l) (· != 46)).length_le
  have h2 : 0 < l.length := List.length_pos_iff.2 h
  rw [List.length_drop]
  rcases Nat.eq_zero_or_pos (l.dropWhile (· != 46)).length with h0 | h0 <;> omega
def parts (l : List UInt8) : List (List UInt8) := if _h : l = [] then [] else firstI l :: parts (restI l)
termination_by l.length
decreasing_by exact restI_lt _h
theorem parts_nil : parts [] = [] := by unfold parts; rfl
theorem parts_cons {l : List UInt8} (h : l ≠ []) : parts l = firstI l :: parts (restI l) := by rw [parts]; rw [dif_neg h]
def noneC (l : List UInt8) : Nat := if l = [] then 1 else 0
def preC : List UInt8 → List UInt8 → Int := thenC (onC noneC natC) (onC parts (listC idC))
theorem cmp_pre : Cmp preC := cmp_then (cmp_on _ cmp_nat) (cmp_on _ (cmp_list cmp_id))
theorem preC_same (a : List UInt8) : preC a a = 0 := cmp_pre.refl a
theorem preC_left {b : List UInt8} (h : b ≠ []) : preC [] b = 1 := by
  unfold preC thenC onC noneC; rw [if_neg h, if_pos rfl]; rfl
theorem preC_right {a : List UInt8} (h : a ≠ []) : preC a [] = -1 := by
  unfold preC thenC onC noneC; rw [if_neg h, if_pos rfl]; rfl
theorem preC_both {a b : List UInt8} (ha : a ≠ []) (hb : b ≠ []) : preC a b = listC idC (parts a) (parts b) := by
  unfold preC thenC onC noneC; rw [if_neg ha, if_neg hb]; rfl
theorem partsC_step {a b : List UInt8} (ha : a ≠ []) (hb : b ≠ []) (h : idC (firstI a) (firstI b) = 0) : listC idC (parts a) (parts b) = listC idC (parts (restI a)) (parts (restI b)) := by
  rw [parts_cons ha, parts_cons hb, listC, if_pos h]
theorem partsC_stop {a b : List UInt8} (ha : a ≠ []) (hb : b ≠ []) (h : idC (firstI a) (firstI b) ≠ 0) : listC idC (parts a) (parts b) = idC (firstI a) (firstI b) := by
  rw [parts_cons ha, parts_cons hb, listC, if_neg h]
theorem partsC_none : listC idC (parts []) (parts []) = 0 := by rw [parts_nil]; rfl
theorem partsC_less {b : List UInt8} (hb : b ≠ []) : listC idC (parts []) (parts b) = -1 := by rw [parts_nil, parts_cons hb]; rfl
theorem partsC_more {a : List UInt8} (ha : a ≠ []) : listC idC (parts a) (parts []) = 1 := by rw [parts_nil, parts_cons ha]; rfl
theorem idC_val (a b : List UInt8) : idC a b = -1 ∨ idC a b = 0 ∨ idC a b = 1 := by
  unfold idC onC keyC thenC onC
  split
  · split
    · exact bytesC_val _ _
    · exact natC_val _ _
  · exact natC_val _ _
theorem preC_val (a b : List UInt8) : preC a b = -1 ∨ preC a b = 0 ∨ preC a b = 1 := by
  unfold preC thenC onC
  split
  · exact listC_val idC_val _ _
  · exact natC_val _ _
end Go.Proofs.YtgoeiflddikihaaGreatDoor.Ord
end
section
namespace Go.Proofs.YtgoeiflddikihaaGreatDoor.Mem
open Go.RowKit
abbrev Blk := Nat × List Value × TypeId
structure Blks (w0 w : World) (L : List Blk) : Prop where
  bel : Below w0.heap.size w0 w
  has : ∀ x ∈ L, w.heap[x.1]? = some (.cells x.2.1.toArray x.2.2 (0, 0))
  new : ∀ x ∈ L, w0.heap.size ≤ x.1
  nd : (L.map (·.1)).Nodup
theorem hsz (w : World) (o : Obj) : (w.alloc o).heap.size = w.heap.size + 1 := by
  show (w.heap.push o).size = _
  simp
theorem hnew (w : World) (o : Obj) : (w.alloc o).heap[w.heap.size]? = some o := by
  show (w.heap.push o)[w.heap.size]? = _
  simp
theorem hlt {w : World} {g : Nat} {o : Obj} (h : w.heap[g]? = some o) : g < w.heap.size := (Array.getElem?_eq_some_iff.1 h).1
theorem Blks.start (w : World) : Blks w w [] := ⟨Below.refl _ _, by simp, by simp, by simp⟩
theorem Blks.call {w0 w w1 : World} {L : List Blk} (h : Blks w0 w L) (hb : Below w.heap.size w w1) : Blks w0 w1 L :=
  ⟨h.bel.trans (hb.mono h.bel.size), fun x hx => (hb.block x.1 (hlt (h.has x hx))).trans (h.has x hx), h.new, h.nd⟩
theorem Blks.drewN {w0 w : World} {L : List Blk} (h : Blks w0 w L) (n : Nat) : Blks w0 (w.drewN n) L := h.call ⟨rfl, rfl, rfl, Nat.le_refl _, fun _ _ => rfl⟩
theorem Blks.drew {w0 w : World} {L : List Blk} (h : Blks w0 w L) : Blks w0 w.drew L := h.call ⟨rfl, rfl, rfl, Nat.le_refl _, fun _ _ => rfl⟩
theorem Blks.alloc {w0 w : World} {L : List Blk} (h : Blks w0 w L) (cs : Array Value) (t : TypeId) : Blks w0 (w.alloc (.cells cs t)) ((w.heap.size, cs.toList, t) :: L) := by
  refine ⟨h.bel.alloc h.bel.size _, ?_, ?_, ?_⟩
  · intro x hx
    rcases List.mem_cons.1 hx with rfl | hx
    · exact hnew w _
    · exact (Below.heap_alloc w _ x.1 (hlt (h.has x hx))).trans (h.has x hx)
  · intro x hx
    rcases List.mem_cons.1 hx with rfl | hx
    · exact h.bel.size
    · exact h.new x hx
  · rw [List.map_cons, List.nodup_cons]
    refine ⟨?_, h.nd⟩
    intro hm
    obtain ⟨x, hx, e⟩ := List.mem_map.1 hm
    have := hlt (h.has x hx)
    simp only at e
    omega
theorem Blks.other {w0 w : World} {L : List Blk} (h : Blks w0 w L) (o : Obj) : Blks w0 (w.alloc o) L :=
  h.call ⟨rfl, rfl, rfl, by rw [hsz]; omega, fun k hk => Below.heap_alloc w o k hk⟩
theorem Blks.drop {w0 w : World} {L : List Blk} {x : Blk} (h : Blks w0 w (x :: L)) : Blks w0 w L :=
  ⟨h.bel, fun y hy => h.has y (List.mem_cons_of_mem _ hy), fun y hy => h.new y (List.mem_cons_of_mem _ hy), (List.nodup_cons.1 h.nd).2⟩
inductive Rd : List Value → Nat → Nat → List Value → Prop
  | nil {cs : List Value} : Rd cs 0 0 []
  | here {c : Value} {cs vs : List Value} {n : Nat} (h : Rd cs 0 n vs) : Rd (c :: cs) 0 (n + 1) (c :: vs)
  | skip {c : Value} {cs vs : List Value} {o n : Nat} (h : Rd cs o n vs) : Rd (c :: cs) (o + 1) n vs
theorem Rd.len {cs : List Value} {o n : Nat} {vs : List Value} (h : Rd cs o n vs) : vs.length = n := by
  induction h with
  | nil => rfl
  | here _ ih => simp [ih]
  | skip _ ih => exact ih
theorem Rd.at_ {cs : List Value} {o n : Nat} {vs : List Value} (h : Rd cs o n vs) : ∀ j v, vs[j]? = some v → cs[o + j]? = some v := by
  induction h with
  | nil => intro j v hv; simp at hv
  | here _ ih =>
    intro j v hv
    cases j with
    | zero => simpa using hv
    | succ j => simpa using ih j v (by simpa using hv)
  | skip _ ih =>
    intro j v hv
    rw [show ∀ o j : Nat, o + 1 + j = (o + j) + 1 from fun o j => by omega]
    simpa using ih j v hv
inductive Wr : List Value → Nat → List Value → List Value → Prop
  | nil {cs : List Value} : Wr cs 0 [] cs
  | here {c v : Value} {cs vs cs' : List Value} (h : Wr cs 0 vs cs') : Wr (c :: cs) 0 (v :: vs) (v :: cs')
  | skip {c : Value} {cs vs cs' : List Value} {o : Nat} (h : Wr cs o vs cs') : Wr (c :: cs) (o + 1) vs (c :: cs')
theorem Wr.len {cs : List Value} {o : Nat} {vs cs' : List Value} (h : Wr cs o vs cs') : cs'.length = cs.length ∧ o + vs.length ≤ cs.length := by
  induction h with
  | nil => simp
  | here _ ih => simp; omega
  | skip _ ih => simp; omega
theorem Wr.eq {cs : List Value} {o : Nat} {vs cs' : List Value} (h : Wr cs o vs cs') : cs' = cs.take o ++ vs ++ cs.drop (o + vs.length) := by
  induction h with
  | nil => simp
  | here _ ih => simp at ih ⊢; rw [ih]
  | skip _ ih => simp at ih ⊢; rw [ih]; simp [Nat.add_right_comm]
inductive Up : List Blk → Nat → List Value → TypeId → List Value → List Blk → Prop
  | here {b : Nat} {cs cs' : List Value} {t : TypeId} {L : List Blk} : Up ((b, cs, t) :: L) b cs t cs' ((b, cs', t) :: L)
  | skip {x : Blk} {b : Nat} {cs cs' : List Value} {t : TypeId} {L L' : List Blk} (h : Up L b cs t cs' L') : Up (x :: L) b cs t cs' (x :: L')
theorem Up.mem {L L' : List Blk} {b : Nat} {cs cs' : List Value} {t : TypeId} (h : Up L b cs t cs' L') : (b, cs, t) ∈ L := by
  induction h with
  | here => simp
  | skip _ ih => exact List.mem_cons_of_mem _ ih
theorem Up.keys {L L' : List Blk} {b : Nat} {cs cs' : List Value} {t : TypeId} (h : Up L b cs t cs' L') : L'.map (·.1) = L.map (·.1) := by
  induction h with
  | here => rfl
  | skip _ ih => simp [ih]
theorem Up.back {L L' : List Blk} {b : Nat} {cs cs' : List Value} {t : TypeId} (h : Up L b cs t cs' L') (hn : (L.map (·.1)).Nodup) : ∀ x ∈ L', x = (b, cs', t) ∨ x ∈ L ∧ x.1 ≠ b := by
  induction h with
  | here =>
    rename_i b cs cs' t L
    intro x hx
    rw [List.map_cons, List.nodup_cons] at hn
    rcases List.mem_cons.1 hx with rfl | hx
    · exact Or.inl rfl
    · refine Or.inr ⟨List.mem_cons_of_mem _ hx, fun e => hn.1 ?_⟩
      exact List.mem_map.2 ⟨x, hx, e⟩
  | skip hu ih =>
    rename_i y b cs cs' t L L'
    intro x hx
    rw [List.map_cons, List.nodup_cons] at hn
    rcases List.mem_cons.1 hx with rfl | hx
    · refine Or.inr ⟨by simp, fun e => hn.1 ?_⟩
      rw [e]; exact List.mem_map.2 ⟨_, hu.mem, rfl⟩
    · rcases ih hn.2 x hx with h | ⟨h1, h2⟩
      · exact Or.inl h
      · exact Or.inr ⟨List.mem_cons_of_mem _ h1, h2⟩
theorem heap_setCells_other (b : Nat) : ∀ (vs : List Value) (o : Nat) (w : World) (k : Nat), k ≠ b → (w.setCells b o vs).heap[k]? = w.heap[k]?
  | [], _, _, _, _ => rfl
  | v :: r, o, w, k, h => by
    rw [World.setCells, heap_setCells_other b r (o + 1) _ k h]
    exact Below.heap_setCell w ⟨b, o, none⟩ v k h
theorem heap_setCells_same (b : Nat) (t : TypeId) : ∀ (vs : List Value) (o : Nat) (w : World) (cs : Array Value), o + vs.length ≤ cs.size → w.heap[b]? = some (.cells cs t (0, 0)) →
    (w.setCells b o vs).heap[b]? = some (.cells (cs.toList.take o ++ vs ++ cs.toList.drop (o + vs.length)).toArray t (0, 0))
  | [], o, w, cs, h, hb => by rw [World.setCells]; simpa using hb
  | v :: r, o, w, cs, h, hb => by
    simp only [List.length_cons] at h
    have h1 : (w.setCell ⟨b, o, none⟩ v).heap[b]? = some (.cells (cs.setIfInBounds o v) t (0, 0)) := by simp [World.setCell, Array.getElem?_modify, hb]
    rw [World.setCells, heap_setCells_same b t r (o + 1) _ (cs.setIfInBounds o v) (by simp; omega) h1]
    congr 2
    apply Array.ext'
    have hk : o < cs.toList.length := by simp; omega
    simp only [Array.toList_setIfInBounds, List.length_cons]
    rw [List.drop_set_of_lt (by omega), List.take_set, List.take_succ_eq_append_getElem hk, List.set_append_right _ _ (by simp; omega)]
    have e : o - (List.take o cs.toList).length = 0 := by rw [List.length_take]; omega
    rw [e]
    simp [Nat.add_assoc, Nat.add_comm 1]
theorem size_setCells (b : Nat) : ∀ (vs : List Value) (o : Nat) (w : World), (w.setCells b o vs).heap.size = w.heap.size ∧ (w.setCells b o vs).os = w.os ∧ (w.setCells b o vs).tape = w.tape ∧ (w.setCells b o vs).output = w.output
  | [], _, _ => ⟨rfl, rfl, rfl, rfl⟩
  | v :: r, o, w => by
    rw [World.setCells]
    obtain ⟨h1, h2, h3, h4⟩ := size_setCells b r (o + 1) (w.setCell ⟨b, o, none⟩ v)
    exact ⟨by rw [h1]; simp [World.setCell], h2, h3, h4⟩
theorem Blks.set {w0 w : World} {L L' : List Blk} (h : Blks w0 w L) {b o : Nat} {cs vs cs' : List Value} {t : TypeId} (hw : Wr cs o vs cs') (hu : Up L b cs t cs' L') : Blks w0 (w.setCells b o vs) L' := by
  have hb := h.has _ hu.mem
  have hn := h.new _ hu.mem
  obtain ⟨s1, s2, s3, s4⟩ := size_setCells b vs o w
  refine ⟨⟨s2.trans h.bel.os, s3.trans h.bel.tape, s4.trans h.bel.output, by rw [s1]; exact h.bel.size, fun k hk => ?_⟩, ?_, ?_, by rw [hu.keys]; exact h.nd⟩
  · rw [heap_setCells_other b vs o w k (by simp only at hn; omega)]
    exact h.bel.block k hk
  · intro x hx
    rcases hu.back h.nd x hx with rfl | ⟨h1, h2⟩
    · have := heap_setCells_same b t vs o w cs.toArray (by simpa using hw.len.2) hb
      simp only at this ⊢
      rw [this, hw.eq]
    · rw [heap_setCells_other b vs o w x.1 h2]
      exact h.has x h1
  · intro x hx
    have hk : x.1 ∈ L'.map (·.1) := List.mem_map.2 ⟨x, hx, rfl⟩
    rw [hu.keys] at hk
    obtain ⟨y, hy, e⟩ := List.mem_map.1 hk
    rw [← e]; exact h.new y hy
theorem Blks.range {w0 w : World} {L : List Blk} (h : Blks w0 w L) {b o n : Nat} {cs vs : List Value} {t : TypeId} (hm : (b, cs, t) ∈ L) (hr : Rd cs o n vs) : w.rangeAt b o vs := by
  intro j v hv
  have hb := h.has _ hm
  have := cell_of_row w b (o + j) cs.toArray t (0, 0) hb
  rw [this]
  simpa using hr.at_ j v hv
theorem Blks.there {w0 w : World} {L : List Blk} (h : Blks w0 w L) {b o n : Nat} {cs : List Value} {t : TypeId} (hm : (b, cs, t) ∈ L) (hn : o + n ≤ cs.length) : w.there b o n := by
  intro j hj
  have hb := h.has _ hm
  have hc := cell_of_row w b (o + j) cs.toArray t (0, 0) hb
  refine ⟨?_, by simp [World.frozen?, hb]⟩
  rw [hc]
  simp; omega
theorem Blks.cell {w0 w : World} {L : List Blk} (h : Blks w0 w L) {b o : Nat} {cs : List Value} {v : Value} {t : TypeId} (hm : (b, cs, t) ∈ L) (hr : Rd cs o 1 [v]) : w.cell? ⟨b, o, none⟩ = some v := h.range hm hr 0 v rfl
section ops
variable {P : Program} {ops : Array Oper} {rest : List Oper} {o : Oper} {a : Act} {w0 w : World} {Q : Exit → Act → World → Prop} {L L' : List Blk}
structure RowT (P : Program) (ty : TypeId) (n : Nat) : Prop where
  row : ∃ d, P.underlying ty = some d ∧ d.isRow = true
  size : (P.info? ty).map (·.size) = some n
structure OneT (P : Program) (ty : TypeId) : Prop where
  row : ∃ d, P.underlying ty = some d ∧ d.isRow = false
  size : (P.info? ty).map (·.size) = some 1
theorem bk_load (hg : o.guard = none) {ty : TypeId} {x : Operand} (ho : o.op = .load ty x) {b off : Nat} (hx : a.eval x = .pointer (some ⟨b, off, none⟩)) (H : Blks w0 w L) {cs : List Value} {t : TypeId} (hm : (b, cs, t) ∈ L)
    {n : Nat} (ht : RowT P ty n) {vs : List Value} (hr : Rd cs off n vs) (h : wpList P ops Q rest (a.put o.dst (.agg vs.toArray)) w) : wpList P ops Q (o :: rest) a w := by
  obtain ⟨d, hu, hd⟩ := ht.row
  exact wpList_load_mid hg ty x ho b off hx vs d (H.range hm hr) hu hd (by rw [ht.size, hr.len]) h
theorem bk_load1 (hg : o.guard = none) {ty : TypeId} {x : Operand} (ho : o.op = .load ty x) {b off : Nat} (hx : a.eval x = .pointer (some ⟨b, off, none⟩)) (H : Blks w0 w L) {cs : List Value} {t : TypeId} (hm : (b, cs, t) ∈ L)
    (ht : OneT P ty) {v : Value} (hr : Rd cs off 1 [v]) (h : wpList P ops Q rest (a.put o.dst v) w) : wpList P ops Q (o :: rest) a w := by
  obtain ⟨d, hu, hd⟩ := ht.row
  have hc : w.cell? ⟨b, off, none⟩ = some v := (H.range hm hr) 0 v rfl
  refine wpList_plain hg fun K hK => ?_
  unfold Oper.wp execOp
  have hrun : (loadVar ty ⟨b, off, none⟩).run P w = .ok v w := by
    have hs := ht.size
    cases hq : P.info? ty with
    | none => simp [hq] at hs
    | some i =>
      have hs : i.size = 1 := by simpa [hq] using hs
      cases d <;> first
        | (simp [TypeDesc.isRow] at hd; done)
        | (simp [loadVar, isAgg, sizeOf, typeInfo, hq, hs, run_underlying hu, hc, loadCells, go_sem]; done)
  simp only [ho, hx, Instr.loadAt, Instr.sureAddr, Sem.run_bind, Sem.run_pure, Result.andThen_ok, hrun]
  exact hK _ _ h
theorem bk_store (hg : o.guard = none) {ty : TypeId} {x y : Operand} (ho : o.op = .store ty x y) (hd : o.dst = none) {b off : Nat} (hx : a.eval x = .pointer (some ⟨b, off, none⟩)) {vs : Array Value} (hy : a.eval y = .agg vs) (H : Blks w0 w L)
    {n : Nat} (ht : RowT P ty n) (hn : vs.size = n) (h1 : vs.all (·.oneCell') = true) {cs cs' : List Value} {t : TypeId} (_hm : (b, cs, t) ∈ L) (hw : Wr cs off vs.toList cs') (hu : Up L b cs t cs' L')
    (h : ∀ w', Blks w0 w' L' → wpList P ops Q rest a w') : wpList P ops Q (o :: rest) a w := by
  have hle := hw.len.2
  rw [Array.length_toList] at hle
  refine wpList_store_mid hg ty x y ho b off vs hx hy (H.there hu.mem hle) (by rw [ht.size, hn]) h1 ?_
  rw [hd]
  exact h _ (H.set hw hu)
theorem bk_store1 (hg : o.guard = none) {ty : TypeId} {x y : Operand} (ho : o.op = .store ty x y) (hd : o.dst = none) {b off : Nat} (hx : a.eval x = .pointer (some ⟨b, off, none⟩)) {v : Value} (hy : a.eval y = v) (H : Blks w0 w L)
    (ht : OneT P ty) (h1 : v.oneCell' = true) {cs cs' : List Value} {t : TypeId} (_hm : (b, cs, t) ∈ L) (hw : Wr cs off [v] cs') (hu : Up L b cs t cs' L')
    (h : ∀ w', Blks w0 w' L' → wpList P ops Q rest a w') : wpList P ops Q (o :: rest) a w := by
  have hle := hw.len.2
  have hth := H.there (n := 1) hu.mem hle
  obtain ⟨h0, h2⟩ := hth 0 (by omega)
  refine wpList_plain hg fun K hK => ?_
  unfold Oper.wp execOp
  obtain ⟨old, hold⟩ := Option.isSome_iff_exists.1 h0
  rw [Nat.add_zero] at hold h2
  have hrun : (storeVar ty ⟨b, off, none⟩ v).run P w = .ok () (w.setCells b off [v]) := by
    have hs := ht.size
    have hcv : v.cells = #[v] := by cases v <;> first | rfl | cases h1
    have hst := run_storeCells_cells (P := P) b off [v] 0 w (fun j hj => by
      have : j = 0 := by simpa using hj
      subst this
      simpa using h0) (fun j hj => by
      have : j = 0 := by simpa using hj
      subst this
      simpa using h2) (fun u hu => by simp at hu; subst hu; exact h1)
    cases hq : P.info? ty with
    | none => simp [hq] at hs
    | some i =>
      have hs : i.size = 1 := by simpa [hq] using hs
      simp only [Nat.add_zero] at hst
      simp [storeVar, sizeOf, typeInfo, hq, hcv, hs, hst]
  simp only [ho, hx, hy, Instr.storeAt, Instr.sureAddr, Sem.run_bind, Sem.run_pure, Result.andThen_ok, hrun]
  rw [Oper.upon_skip, hd]
  exact hK _ _ (h _ (H.set hw hu))
theorem bk_alloc (hg : o.guard = none) {ty : TypeId} (ho : o.op = .alloc ty) (H : Blks w0 w L) {zs : Array Value} (hz : (P.info? ty).bind (fun i => i.zero.map (·.cells)) = some zs)
    (h : ∀ (b : Nat) (w' : World), Blks w0 w' ((b, zs.toList, ty) :: L) → wpList P ops Q rest (a.put o.dst (.pointer (some ⟨b, 0, none⟩))) w') : wpList P ops Q (o :: rest) a w := by
  refine wpList_plain hg fun K hK => ?_
  unfold Oper.wp execOp
  cases hq : P.info? ty with
  | none => simp [hq] at hz
  | some i =>
    simp only [hq, Option.bind_some] at hz
    cases hv : i.zero with
    | none => simp [hv] at hz
    | some z =>
      simp only [hv, Option.map_some, Option.some.injEq] at hz
      have hrun : (Instr.alloc ty true (.tuple #[])).run P w = .ok (.pointer (some ⟨w.heap.size, 0, none⟩)) (w.alloc (.cells zs ty)) := by
        simp [Instr.alloc, zeroValue, typeInfo, hq, hv, newVar, newRow, hz]
      simp only [ho, Sem.run_bind, hrun, Result.andThen_ok, Sem.run_pure]
      exact hK _ _ (h _ _ (H.alloc zs ty))
theorem bk_box (hg : o.guard = none) {ty : TypeId} {x : Operand} (ho : o.op = .box ty x) (H : Blks w0 w L) {cs : Array Value} (hx : a.eval x = .agg cs)
    (h : ∀ (b : Nat) (w' : World), Blks w0 w' ((b, cs.toList, ty) :: L) → wpList P ops Q rest (a.put o.dst (.pointer (some ⟨b, 0, none⟩))) w') : wpList P ops Q (o :: rest) a w :=
  Great.wpList_boxTo hg ty x ho o.dst rfl w.heap.size rfl cs (by rw [hx]; rfl) (h _ _ (H.alloc cs ty))
theorem bk_slice (hg : o.guard = none) {t e : TypeId} {len : Nat} {parts : Array (Nat × Operand)} (ho : o.op = .buildSlice t len parts) (H : Blks w0 w L) (hu : P.underlying t = some (.slice e)) {cells : Array Value}
    (hf : P.builtSlice e len (parts.map fun (i, x) => (i, a.eval x)).toList = some cells)
    (h : ∀ (b : Nat) (w' : World), Blks w0 w' ((b, cells.toList, e) :: L) → wpList P ops Q rest (a.put o.dst (.slice (some ⟨b, 0, none⟩) len len)) w') : wpList P ops Q (o :: rest) a w :=
  Great.wpList_buildSliceTo hg t e len parts ho w.heap.size rfl o.dst rfl hu cells hf (h _ _ (H.alloc cells e))
theorem bk_build (hg : o.guard = none) {t : TypeId} {parts : Array (Nat × Operand)} (ho : o.op = .build t parts) {cells : Array Value} (hf : P.built t (parts.map fun (i, x) => (i, a.eval x)).toList = some cells)
    (h : wpList P ops Q rest (a.put o.dst (.agg cells)) w) : wpList P ops Q (o :: rest) a w := wpList_buildTo hg t parts ho o.dst rfl cells hf h
theorem Blks.row (h : Blks w0 w L) {b n size : Nat} {cs : List Value} {e : TypeId} (hm : (b, cs, e) ∈ L) (hl : cs.length = n * size) (hn : n ≤ maxLen) : w.ownsRow w0.heap.size e size (.slice (some ⟨b, 0, none⟩) n n) n cs :=
  ⟨hl, Or.inr ⟨b, n, cs.toArray, rfl, h.new _ hm, h.has _ hm, Nat.le_refl _, hn, by simpa using hl, by simp [List.take_of_length_le (Nat.le_of_eq hl)]⟩⟩
end ops
end Go.Proofs.YtgoeiflddikihaaGreatDoor.Mem
end
section
namespace Go.Proofs
open Go.Shelf
def Tryz.lays129_ren : Go.Shelf.Ren := ⟨fun | 129 => 131 | n => n, fun | 53 => 46 | 3 => 3 | 4 => 4 | 46 => 209 | 5 => 5 | 9 => 9 | n => n, fun | n => n⟩
theorem Tryz.lays129 : Go.Proofs.Lays.n129 Tryz.prog Tryz.lays129_ren := {
  mixed := by kernel_rfl
  f129 := Tryz.func131.trans (congrArg some (by kernel_rfl))
  t3 := Tryz.underlying3
  a3 := Tryz.isAgg3
  z3 := Tryz.sizeOf3
  v3 := Tryz.zeroValue3
  t4 := Tryz.underlying4
  a4 := Tryz.isAgg4
  z4 := Tryz.sizeOf4
  v4 := Tryz.zeroValue4
  t5 := Tryz.underlying5
  a5 := Tryz.isAgg5
  z5 := Tryz.sizeOf5
  v5 := Tryz.zeroValue5
  t9 := Tryz.underlying9
  a9 := Tryz.isAgg9
  z9 := Tryz.sizeOf9
  v9 := Tryz.zeroValue9
  t46 := Tryz.underlying209
  a46 := Tryz.isAgg209
  z46 := Tryz.sizeOf209
  v46 := Tryz.zeroValue209
  t53 := Tryz.underlying46
  a53 := Tryz.isAgg46
  z53 := Tryz.sizeOf46
  v53 := Tryz.zeroValue46 }
theorem Tryz.bits_Len64 (x : Int) (w : World) (h0 : 0 ≤ x) (h1 : x ≤ 18446744073709551615) :
    Calls Tryz.prog 131 #[.int .u64 x] w fun e w' => e = .returned (.int .i64 (Lib.bitLen x.toNat)) ∧ w' = w := Any.bits_Len64 Tryz.lays129 x w h0 h1
def Tryz.lays283_ren : Go.Shelf.Ren := ⟨fun | 283 => 168 | n => n, fun | 3 => 3 | 9 => 9 | 4 => 4 | n => n, fun | n => n⟩
theorem Tryz.lays283 : Go.Proofs.Lays.n283 Tryz.prog Tryz.lays283_ren := {
  mixed := by kernel_rfl
  f283 := Tryz.func168.trans (congrArg some (by kernel_rfl))
  t3 := Tryz.underlying3
  a3 := Tryz.isAgg3
  z3 := Tryz.sizeOf3
  v3 := Tryz.zeroValue3
  t4 := Tryz.underlying4
  a4 := Tryz.isAgg4
  z4 := Tryz.sizeOf4
  v4 := Tryz.zeroValue4
  t9 := Tryz.underlying9
  a9 := Tryz.isAgg9
  z9 := Tryz.sizeOf9
  v9 := Tryz.zeroValue9 }
open Go.Lib in
theorem Tryz.internal_strconv_small (i : Nat) (h : i < 100) (w : World) :
    Calls Tryz.prog 168 #[.int .i64 i] w fun e w' => e = .returned (.string ⟨(Lib.decDigits i).toArray⟩) ∧ w' = w := Any.internal_strconv_small Tryz.lays283 i h w
def Tryz.laysM284_ren : Go.Shelf.Ren := ⟨fun | 284 => 169 | 129 => 131 | 317 => 172 | 318 => 173 | n => n, fun | 53 => 46 | 3 => 3 | 212 => 282 | 0 => 0 | 4 => 4 | 46 => 209 | 5 => 5 | 9 => 9 | n => n, fun | 17 => 2 | n => n⟩
theorem Tryz.laysM284 : Go.Proofs.LaysM.n284 Tryz.prog Tryz.laysM284_ren := {
  mixed := by kernel_rfl
  f129 := Tryz.func131.trans (congrArg some (by kernel_rfl))
  f284 := Tryz.func169.trans (congrArg some (by kernel_rfl))
  f317 := Tryz.func172.trans (congrArg some (by kernel_rfl))
  f318 := Tryz.func173.trans (congrArg some (by kernel_rfl))
  t0 := Tryz.underlying0
  a0 := Tryz.isAgg0
  z0 := Tryz.sizeOf0
  v0 := Tryz.zeroValue0
  t3 := Tryz.underlying3
  a3 := Tryz.isAgg3
  z3 := Tryz.sizeOf3
  v3 := Tryz.zeroValue3
  t4 := Tryz.underlying4
  a4 := Tryz.isAgg4
  z4 := Tryz.sizeOf4
  v4 := Tryz.zeroValue4
  t5 := Tryz.underlying5
  a5 := Tryz.isAgg5
  z5 := Tryz.sizeOf5
  v5 := Tryz.zeroValue5
  t9 := Tryz.underlying9
  a9 := Tryz.isAgg9
  z9 := Tryz.sizeOf9
  v9 := Tryz.zeroValue9
  t46 := Tryz.underlying209
  a46 := Tryz.isAgg209
  z46 := Tryz.sizeOf209
  v46 := Tryz.zeroValue209
  t53 := Tryz.underlying46
  a53 := Tryz.isAgg46
  z53 := Tryz.sizeOf46
  v53 := Tryz.zeroValue46
  t212 := Tryz.underlying282
  a212 := Tryz.isAgg282
  z212 := Tryz.sizeOf282
  v212 := Tryz.zeroValue282
  g17 := by kernel_rfl
  i0 := by kernel_rfl
  i3 := by kernel_rfl
  i4 := by kernel_rfl
  i5 := by kernel_rfl
  i9 := by kernel_rfl
  i46 := by kernel_rfl
  i53 := by kernel_rfl
  i212 := by kernel_rfl
  m17 := by kernel_rfl }
open Go.Lib in
theorem Tryz.internal_strconv_numDigits (u : Nat) (h1 : 1 ≤ u) (h2 : u < 18446744073709551616) (w : World) (htab : Lib.TabIs Tryz.prog w "internal/strconv.uint64pow10" .u64 Lib.pow10Tab) :
    Calls Tryz.prog 169 #[.int .u64 u] w fun e w' => e = .returned (.int .i64 (Lib.nDigits u)) ∧ w' = w := Any.internal_strconv_numDigits Tryz.laysM284 u h1 h2 w htab
def Tryz.lays285_ren : Go.Shelf.Ren := ⟨fun | 285 => 170 | n => n, fun | 37 => 80 | 53 => 46 | 3 => 3 | 4 => 4 | 51 => 60 | 9 => 9 | 5 => 5 | 0 => 0 | n => n, fun | n => n⟩
theorem Tryz.lays285 : Go.Proofs.Lays.n285 Tryz.prog Tryz.lays285_ren := {
  mixed := by kernel_rfl
  f285 := Tryz.func170.trans (congrArg some (by kernel_rfl))
  t0 := Tryz.underlying0
  a0 := Tryz.isAgg0
  z0 := Tryz.sizeOf0
  v0 := Tryz.zeroValue0
  t3 := Tryz.underlying3
  a3 := Tryz.isAgg3
  z3 := Tryz.sizeOf3
  v3 := Tryz.zeroValue3
  t4 := Tryz.underlying4
  a4 := Tryz.isAgg4
  z4 := Tryz.sizeOf4
  v4 := Tryz.zeroValue4
  t5 := Tryz.underlying5
  a5 := Tryz.isAgg5
  z5 := Tryz.sizeOf5
  v5 := Tryz.zeroValue5
  t9 := Tryz.underlying9
  a9 := Tryz.isAgg9
  z9 := Tryz.sizeOf9
  v9 := Tryz.zeroValue9
  t37 := Tryz.underlying80
  a37 := Tryz.isAgg80
  z37 := Tryz.sizeOf80
  v37 := Tryz.zeroValue80
  t51 := Tryz.underlying60
  a51 := Tryz.isAgg60
  z51 := Tryz.sizeOf60
  v51 := Tryz.zeroValue60
  t53 := Tryz.underlying46
  a53 := Tryz.isAgg46
  z53 := Tryz.sizeOf46
  v53 := Tryz.zeroValue46 }
open Go.RowKit Go.Sort Go.Lib in
theorem Tryz.internal_strconv_formatBase10 (blk off cap : Nat) (u : Nat) (d : Array UInt8) (w : World) (hH : Holds (fun (b : UInt8) => Value.int .u8 (b.toNat : Int)) w blk off d) (hu : u < 10 ^ d.size) (hu64 : u < 18446744073709551616) (hsz : d.size < 4611686018427387904) :
    Calls Tryz.prog 170 #[.slice (some ⟨blk, off, none⟩) d.size cap, .int .u64 u] w fun e w' =>
      e = .returned (.tuple #[]) ∧ ∃ (n v' : Nat) (dk : Array UInt8), w' = (putRow (fun (b : UInt8) => Value.int .u8 (b.toNat : Int)) w blk off dk).drewN n ∧ FmtInv d.size u 0 v' dk := Any.internal_strconv_formatBase10 Tryz.lays285 blk off cap u d w hH hu hu64 hsz
def Tryz.laysPu14_ren : Go.Shelf.Ren := ⟨fun | 14 => 152 | 16 => 156 | 17 => 157 | 19 => 158 | 20 => 159 | 21 => 160 | 22 => 161 | 23 => 162 | 24 => 163 | 25 => 164 | 27 => 165 | 26 => 144 | 28 => 166 | 29 => 167 | 30 => 168 | 31 => 169 | 32 => 170 | 33 => 171 | 35 => 131 | 34 => 172 | 36 => 173 | 37 => 174 | 38 => 175 | 39 => 176 | 40 => 177 | n => n, fun | 9 => 9 | 3 => 3 | 22 => 46 | 24 => 166 | 25 => 257 | 4 => 4 | 34 => 267 | 5 => 5 | 36 => 209 | 37 => 80 | 0 => 0 | 39 => 269 | 21 => 21 | 44 => 273 | 47 => 275 | 50 => 262 | 48 => 260 | 2 => 2 | 52 => 277 | 55 => 279 | 59 => 282 | 60 => 60 | 20 => 20 | 61 => 283 | 65 => 285 | 66 => 286 | 67 => 129 | n => n, fun | 0 => 0 | 1 => 1 | 2 => 2 | 3 => 3 | 4 => 4 | n => n⟩
theorem Tryz.laysPu14 : Go.Proofs.LaysPu.n14 Tryz.prog Tryz.laysPu14_ren := {
  mixed := by kernel_rfl
  f14 := Tryz.func152.trans (congrArg some (by kernel_rfl))
  f16 := Tryz.func156.trans (congrArg some (by kernel_rfl))
  f17 := Tryz.func157.trans (congrArg some (by kernel_rfl))
  f19 := Tryz.func158.trans (congrArg some (by kernel_rfl))
  f20 := Tryz.func159.trans (congrArg some (by kernel_rfl))
  f21 := Tryz.func160.trans (congrArg some (by kernel_rfl))
  f22 := Tryz.func161.trans (congrArg some (by kernel_rfl))
  f23 := Tryz.func162.trans (congrArg some (by kernel_rfl))
  f24 := Tryz.func163.trans (congrArg some (by kernel_rfl))
  f25 := Tryz.func164.trans (congrArg some (by kernel_rfl))
  f26 := Tryz.func144.trans (congrArg some (by kernel_rfl))
  f27 := Tryz.func165.trans (congrArg some (by kernel_rfl))
  f28 := Tryz.func166.trans (congrArg some (by kernel_rfl))
  f29 := Tryz.func167.trans (congrArg some (by kernel_rfl))
  f30 := Tryz.func168.trans (congrArg some (by kernel_rfl))
  f31 := Tryz.func169.trans (congrArg some (by kernel_rfl))
  f32 := Tryz.func170.trans (congrArg some (by kernel_rfl))
  f33 := Tryz.func171.trans (congrArg some (by kernel_rfl))
  f34 := Tryz.func172.trans (congrArg some (by kernel_rfl))
  f35 := Tryz.func131.trans (congrArg some (by kernel_rfl))
  f36 := Tryz.func173.trans (congrArg some (by kernel_rfl))
  f37 := Tryz.func174.trans (congrArg some (by kernel_rfl))
  f38 := Tryz.func175.trans (congrArg some (by kernel_rfl))
  f39 := Tryz.func176.trans (congrArg some (by kernel_rfl))
  f40 := Tryz.func177.trans (congrArg some (by kernel_rfl))
  t0 := Tryz.underlying0
  a0 := Tryz.isAgg0
  z0 := Tryz.sizeOf0
  v0 := Tryz.zeroValue0
  i0 := by kernel_rfl
  t2 := Tryz.underlying2
  a2 := Tryz.isAgg2
  z2 := Tryz.sizeOf2
  v2 := Tryz.zeroValue2
  i2 := by kernel_rfl
  t3 := Tryz.underlying3
  a3 := Tryz.isAgg3
  z3 := Tryz.sizeOf3
  v3 := Tryz.zeroValue3
  i3 := by kernel_rfl
  t4 := Tryz.underlying4
  a4 := Tryz.isAgg4
  z4 := Tryz.sizeOf4
  v4 := Tryz.zeroValue4
  i4 := by kernel_rfl
  t5 := Tryz.underlying5
  a5 := Tryz.isAgg5
  z5 := Tryz.sizeOf5
  v5 := Tryz.zeroValue5
  i5 := by kernel_rfl
  t9 := Tryz.underlying9
  a9 := Tryz.isAgg9
  z9 := Tryz.sizeOf9
  v9 := Tryz.zeroValue9
  i9 := by kernel_rfl
  t20 := Tryz.underlying20
  a20 := Tryz.isAgg20
  z20 := Tryz.sizeOf20
  v20 := Tryz.zeroValue20
  i20 := by kernel_rfl
  t21 := Tryz.underlying21
  a21 := Tryz.isAgg21
  z21 := Tryz.sizeOf21
  v21 := Tryz.zeroValue21
  i21 := by kernel_rfl
  t22 := Tryz.underlying46
  a22 := Tryz.isAgg46
  z22 := Tryz.sizeOf46
  v22 := Tryz.zeroValue46
  i22 := by kernel_rfl
  t24 := Tryz.underlying166
  a24 := Tryz.isAgg166
  z24 := Tryz.sizeOf166
  v24 := Tryz.zeroValue166
  i24 := by kernel_rfl
  t25 := Tryz.underlying257
  a25 := Tryz.isAgg257
  z25 := Tryz.sizeOf257
  v25 := Tryz.zeroValue257
  i25 := by kernel_rfl
  t34 := Tryz.underlying267
  a34 := Tryz.isAgg267
  z34 := Tryz.sizeOf267
  v34 := Tryz.zeroValue267
  i34 := by kernel_rfl
  c34 := by kernel_rfl
  t36 := Tryz.underlying209
  a36 := Tryz.isAgg209
  z36 := Tryz.sizeOf209
  v36 := Tryz.zeroValue209
  i36 := by kernel_rfl
  t37 := Tryz.underlying80
  a37 := Tryz.isAgg80
  z37 := Tryz.sizeOf80
  v37 := Tryz.zeroValue80
  i37 := by kernel_rfl
  t39 := Tryz.underlying269
  a39 := Tryz.isAgg269
  z39 := Tryz.sizeOf269
  v39 := Tryz.zeroValue269
  i39 := by kernel_rfl
  t44 := Tryz.underlying273
  a44 := Tryz.isAgg273
  z44 := Tryz.sizeOf273
  v44 := Tryz.zeroValue273
  i44 := by kernel_rfl
  t47 := Tryz.underlying275
  a47 := Tryz.isAgg275
  z47 := Tryz.sizeOf275
  v47 := Tryz.zeroValue275
  i47 := by kernel_rfl
  t48 := Tryz.underlying260
  a48 := Tryz.isAgg260
  z48 := Tryz.sizeOf260
  v48 := Tryz.zeroValue260
  i48 := by kernel_rfl
  t50 := Tryz.underlying262
  a50 := Tryz.isAgg262
  z50 := Tryz.sizeOf262
  v50 := Tryz.zeroValue262
  i50 := by kernel_rfl
  t52 := Tryz.underlying277
  a52 := Tryz.isAgg277
  z52 := Tryz.sizeOf277
  v52 := Tryz.zeroValue277
  i52 := by kernel_rfl
  t55 := Tryz.underlying279
  a55 := Tryz.isAgg279
  z55 := Tryz.sizeOf279
  v55 := Tryz.zeroValue279
  i55 := by kernel_rfl
  t59 := Tryz.underlying282
  a59 := Tryz.isAgg282
  z59 := Tryz.sizeOf282
  v59 := Tryz.zeroValue282
  i59 := by kernel_rfl
  t60 := Tryz.underlying60
  a60 := Tryz.isAgg60
  z60 := Tryz.sizeOf60
  v60 := Tryz.zeroValue60
  i60 := by kernel_rfl
  t61 := Tryz.underlying283
  a61 := Tryz.isAgg283
  z61 := Tryz.sizeOf283
  t65 := Tryz.underlying285
  a65 := Tryz.isAgg285
  z65 := Tryz.sizeOf285
  v65 := Tryz.zeroValue285
  i65 := by kernel_rfl
  t66 := Tryz.underlying286
  a66 := Tryz.isAgg286
  z66 := Tryz.sizeOf286
  v66 := Tryz.zeroValue286
  i66 := by kernel_rfl
  t67 := Tryz.underlying129
  a67 := Tryz.isAgg129
  z67 := Tryz.sizeOf129
  v67 := Tryz.zeroValue129
  i67 := by kernel_rfl
  g0 := by kernel_rfl
  m0 := by kernel_rfl
  g1 := by kernel_rfl
  m1 := by kernel_rfl
  g2 := by kernel_rfl
  m2 := by kernel_rfl
  g3 := by kernel_rfl
  m3 := by kernel_rfl
  g4 := by kernel_rfl
  m4 := by kernel_rfl }
open Go.RowKit in
theorem Tryz.strconv_ParseUint_10_at64_ok (s : ByteArray) (hmax : s.size ≤ 9223372036854775806) (u : Nat) (h : Lib.parseUintB 64 s.data.toList = .ok u) (w : World) :
    Calls Tryz.prog 152 #[.string s, .int .i64 10, .int .i64 64] w fun e w' => e = .returned (.tuple #[.int .u64 u, .nilIface]) ∧ (w' = w ∨ w' = Lib.bytesWorld w 5 s) := Any.strconv_ParseUint_10_at64_ok Tryz.laysPu14 s hmax u h w
open Go.RowKit in
theorem Tryz.strconv_ParseUint_10_at64_syntax_var (s : ByteArray) (hlim : s.size ≤ 281474976710656) (h : Lib.parseUintB 64 s.data.toList = Lib.NumEnd.syntax) (tp : TypeId) (p : Value) (w : World) (hvar : w.var? Tryz.prog "strconv.ErrSyntax" = some #[.iface tp p]) :
    Calls Tryz.prog 152 #[.string s, .int .i64 10, .int .i64 64] w fun e w' => ∃ N, e = .returned (.tuple #[.int .u64 0, .iface 269 (.pointer (some ⟨N, 0, none⟩))]) ∧ w.heap.size ≤ N ∧ w'.heap[N]? = some (.cells #[.string ⟨#[80, 97, 114, 115, 101, 85, 105, 110, 116]⟩, .string s, .iface tp p] 273 (0, 0)) ∧ Below w.heap.size w w' := Any.strconv_ParseUint_10_at64_syntax_var Tryz.laysPu14 s hlim h tp p w hvar
open Go.RowKit in
theorem Tryz.strconv_ParseUint_10_at64_range_var (s : ByteArray) (hlim : s.size ≤ 281474976710656) (h : Lib.parseUintB 64 s.data.toList = .range) (tp : TypeId) (p : Value) (w : World) (hvar : w.var? Tryz.prog "strconv.ErrRange" = some #[.iface tp p]) :
    Calls Tryz.prog 152 #[.string s, .int .i64 10, .int .i64 64] w fun e w' => ∃ N, e = .returned (.tuple #[.int .u64 18446744073709551615, .iface 269 (.pointer (some ⟨N, 0, none⟩))]) ∧ w.heap.size ≤ N ∧ w'.heap[N]? = some (.cells #[.string ⟨#[80, 97, 114, 115, 101, 85, 105, 110, 116]⟩, .string s, .iface tp p] 273 (0, 0)) ∧ Below w.heap.size w w' := Any.strconv_ParseUint_10_at64_range_var Tryz.laysPu14 s hlim h tp p w hvar
end Go.Proofs
end
section
namespace Go.Proofs.YtgoeiflddikihaaGreatDoor.Mem
open Go.RowKit Go.Proofs.YtgoeiflddikihaaGreatDoorW.PrintWords
theorem Blks.add {w0 w w1 : World} {L : List Blk} (h : Blks w0 w L) (hb : Below w.heap.size w w1) {g : Nat} (hg : w.heap.size ≤ g) {cs : Array Value} {t : TypeId} (hc : w1.heap[g]? = some (.cells cs t (0, 0))) {l : List Value} (hl : cs.toList = l) : Blks w0 w1 ((g, l, t) :: L) := by
  have h1 := h.call hb
  subst hl
  refine ⟨h1.bel, ?_, ?_, ?_⟩
  · intro x hx
    rcases List.mem_cons.1 hx with rfl | hx
    · exact hc
    · exact h1.has x hx
  · intro x hx
    rcases List.mem_cons.1 hx with rfl | hx
    · exact Nat.le_trans h.bel.size hg
    · exact h1.new x hx
  · rw [List.map_cons, List.nodup_cons]
    refine ⟨?_, h1.nd⟩
    intro hm
    obtain ⟨x, hx, e⟩ := List.mem_map.1 hm
    have := hlt (h.has x hx)
    simp only at e
    omega
structure RowF (n cap size : Nat) (xs rest : List Value) : Prop where
  len : xs.length = n * size
  le : n ≤ cap
  most : cap ≤ maxLen
  all : (xs ++ rest).length = cap * size
theorem row_block {w : World} {base n size : Nat} {e : TypeId} {v : Value} {xs : List Value} (h : w.ownsRow base e size v n xs) (hp : 0 < n) :
    ∃ g cap cells rest, v = .slice (some ⟨g, 0, none⟩) n cap ∧ base ≤ g ∧ w.heap[g]? = some (.cells cells e (0, 0)) ∧ cells.toList = xs ++ rest ∧ RowF n cap size xs rest := by
  obtain ⟨hl, h⟩ := h
  rcases h with ⟨_, rfl⟩ | ⟨g, cap, cur, rfl, hb, hc, h1, h2, h3, ht⟩
  · omega
  · have e1 : cur.toList = xs ++ cur.toList.drop (n * size) := by rw [← ht, List.take_append_drop]
    exact ⟨g, cap, cur, cur.toList.drop (n * size), rfl, hb, hc, e1, hl, h1, h2, by rw [← e1, Array.length_toList, h3]⟩
theorem Blks.addr {w0 w : World} {L : List Blk} (h : Blks w0 w L) {g : Nat} {xs rest : List Value} {e : TypeId} (hm : (g, xs ++ rest, e) ∈ L) : ∀ (j : Nat) (u : Value), xs[j]? = some u → w.cell? ((⟨g, 0, none⟩ : Addr).add j) = some u := by
  intro j u hu
  rw [Addr.add_mid]
  have := cell_of_row w g (0 + j) (xs ++ rest).toArray e (0, 0) (h.has _ hm)
  rw [this]
  have hj : j < xs.length := (List.getElem?_eq_some_iff.1 hu).1
  simp only [Nat.zero_add, List.getElem?_toArray]
  rw [List.getElem?_append_left hj, hu]
theorem reps_strings {w : World} {base : Nat} {ok : Nat → Prop} {xs : List ByteArray} {inner : List Value} (h : Reps (Kd.string.M w base ok) 1 xs inner) : inner = xs.map Value.string := by
  obtain ⟨h1, h2⟩ := h
  refine List.ext_getElem (by simp [h1]) fun j hj hj' => ?_
  have hx : j < xs.length := by simpa using hj'
  have := h2 j xs[j] (List.getElem?_eq_getElem hx)
  have e : List.take 1 (List.drop (j * 1) inner) = [Value.string xs[j]] := this
  rw [Nat.mul_one, List.drop_eq_getElem_cons hj, List.take_succ_cons] at e
  injection e with e _
  simp [e]
theorem strs_block {w : World} {base : Nat} {ok : Nat → Prop} {e : TypeId} {v : Value} {xs : List ByteArray} (h : Kd.R Kd.string e w base ok v xs) (hp : 0 < xs.length) :
    ∃ g cap cells rest, v = .slice (some ⟨g, 0, none⟩) xs.length cap ∧ base ≤ g ∧ w.heap[g]? = some (.cells cells e (0, 0)) ∧ cells.toList = xs.map Value.string ++ rest := by
  obtain ⟨_, inner, ho, hr⟩ := h
  obtain ⟨g, cap, cells, rest, h1, h2, h3, h4, _⟩ := row_block ho hp
  rw [reps_strings hr] at h4
  exact ⟨g, cap, cells, rest, h1, h2, h3, h4⟩
end Go.Proofs.YtgoeiflddikihaaGreatDoor.Mem
end
