/- Merged by program out of: VOrd, VCmp, SemO, PFnVersionx0, VPh, VPi. -/
import Derived.WalkKit
import Derived.Test.YtgoeiflddikihaaGreatDoorCsM3
import Derived.Sort.Statements
import Derived.Test.YtgoeiflddikihaaGreatDoorProg
import Derived.Below
import Derived.Deep.Draws
import Derived.Deep.AppendLies
import Derived.Maps.AppendAt
import Derived.OwnWalk
import Derived.Laws.BytesArg
import Derived.Laws.MakeOwn
import Derived.Laws.OwnMore
import Derived.Deep.OwnRows
import Derived.Tactics
import Derived.Lib.ConvBytes
import Derived.Laws.Slices
import Derived.KernelRfl
import Derived.RowKit3
import Derived.Deep.LoopGhost
import Derived.Deep.QuietTactic
import Derived.BigQuiet
import Derived.WideLaws
import Derived.Deep.DeepCutAuto
import Derived.Deep.CutBlock
import Derived.Deep.RegionHeld3
import Derived.Laws.Rows
import Derived.Lib.AppendStr
import Derived.ArgAppend
import Derived.Laws.IdiomCopy
import Derived.OrdersHeld
import Derived.Laws.BitsLemmas
import Derived.RowKit
import Derived.Test.YtgoeiflddikihaaGreatDoorCsM0
import Derived.Test.YtgoeiflddikihaaGreatDoorCsM1
import Derived.Laws.StructEq
section
namespace Go.Proofs.YtgoeiflddikihaaGreatDoor.Ord
structure Cmp {α : Type} (c : α → α → Int) : Prop where
  anti : ∀ a b, c b a = - c a b
  trans : ∀ a b d, c a b ≤ 0 → c b d ≤ 0 → c a d ≤ 0
namespace Cmp
variable {α β : Type} {c : α → α → Int}
theorem refl (h : Cmp c) (a : α) : c a a = 0 := by have := h.anti a a; omega
theorem eq_trans (h : Cmp c) {a b d : α} (h1 : c a b = 0) (h2 : c b d = 0) : c a d = 0 := by
  have a1 := h.trans a b d (by omega) (by omega)
  have a2 := h.trans d b a (by have := h.anti b d; omega) (by have := h.anti a b; omega)
  have := h.anti a d
  omega
theorem lt_le (h : Cmp c) {a b d : α} (h1 : c a b < 0) (h2 : c b d ≤ 0) : c a d < 0 := by
  have a1 := h.trans a b d (by omega) h2
  rcases Int.lt_or_eq_of_le a1 with h3 | h3
  · exact h3
  · have a2 := h.trans b d a h2 (by have := h.anti a d; omega)
    have := h.anti a b
    omega
theorem le_lt (h : Cmp c) {a b d : α} (h1 : c a b ≤ 0) (h2 : c b d < 0) : c a d < 0 := by
  have a1 := h.trans a b d h1 (by omega)
  rcases Int.lt_or_eq_of_le a1 with h3 | h3
  · exact h3
  · have a2 := h.trans d a b (by have := h.anti a d; omega) h1
    have := h.anti b d
    omega
end Cmp
def thenC {α : Type} (c d : α → α → Int) (a b : α) : Int := if c a b = 0 then d a b else c a b
theorem cmp_then {α : Type} {c d : α → α → Int} (h : Cmp c) (k : Cmp d) : Cmp (thenC c d) := by
  refine ⟨fun a b => ?_, fun a b e h1 h2 => ?_⟩
  · unfold thenC
    have h1 := h.anti a b
    have h2 := k.anti a b
    by_cases hc : c a b = 0
    · rw [if_pos hc, if_pos (by omega)]; exact h2
    · rw [if_neg hc, if_neg (by omega)]; exact h1
  · unfold thenC at h1 h2 ⊢
    by_cases hc : c a b = 0
    · rw [if_pos hc] at h1
      by_cases hd : c b e = 0
      · rw [if_pos hd] at h2
        rw [if_pos (h.eq_trans hc hd)]
        exact k.trans a b e h1 h2
      · rw [if_neg hd] at h2
        have := h.le_lt (a := a) (b := b) (d := e) (by omega) (by omega)
        rw [if_neg (by omega)]; omega
    · rw [if_neg hc] at h1
      have h3 : c b e ≤ 0 := by
        by_cases hd : c b e = 0
        · omega
        · rw [if_neg hd] at h2; exact h2
      have := h.lt_le (a := a) (b := b) (d := e) (by omega) h3
      rw [if_neg (by omega)]; omega
def onC {α β : Type} (f : α → β) (c : β → β → Int) (a b : α) : Int := c (f a) (f b)
theorem cmp_on {α β : Type} {c : β → β → Int} (f : α → β) (h : Cmp c) : Cmp (onC f c) := ⟨fun _ _ => h.anti _ _, fun _ _ _ => h.trans _ _ _⟩
def natC (a b : Nat) : Int := if a < b then -1 else if b < a then 1 else 0
theorem cmp_nat : Cmp natC := by
  refine ⟨fun a b => ?_, fun a b d h1 h2 => ?_⟩
  · unfold natC; split <;> split <;> first | rfl | omega
  · unfold natC at *; repeat' split
    all_goals (first | omega | (repeat' split at h1) <;> (repeat' split at h2) <;> omega)
def intC (a b : Int) : Int := if a < b then -1 else if b < a then 1 else 0
theorem cmp_int : Cmp intC := by
  refine ⟨fun a b => ?_, fun a b d h1 h2 => ?_⟩
  · unfold intC; split <;> split <;> first | rfl | omega
  · unfold intC at *; repeat' split
    all_goals (first | omega | (repeat' split at h1) <;> (repeat' split at h2) <;> omega)
def listC {α : Type} (c : α → α → Int) : List α → List α → Int
  | [], [] => 0
  | [], _ :: _ => -1
  | _ :: _, [] => 1
  | a :: x, b :: y => if c a b = 0 then listC c x y else c a b
theorem listC_anti {α : Type} {c : α → α → Int} (h : Cmp c) : ∀ a b, listC c b a = - listC c a b
  | [], [] => rfl
  | [], _ :: _ => rfl
  | _ :: _, [] => rfl
  | a :: x, b :: y => by
    unfold listC
    have h1 := h.anti a b
    have h2 := listC_anti h x y
    by_cases hc : c a b = 0
    · rw [if_pos hc, if_pos (by omega)]; exact h2
    · rw [if_neg hc, if_neg (by omega)]; exact h1
theorem listC_trans {α : Type} {c : α → α → Int} (h : Cmp c) : ∀ a b d, listC c a b ≤ 0 → listC c b d ≤ 0 → listC c a d ≤ 0
  | [], _, [], _, _ => by simp [listC]
  | [], _, _ :: _, _, _ => by simp [listC]
  | _ :: _, [], _, h1, _ => by simp [listC] at h1
  | _ :: _, _ :: _, [], _, h2 => by simp [listC] at h2
  | a :: x, b :: y, e :: z, h1, h2 => by
    unfold listC at h1 h2 ⊢
    by_cases hc : c a b = 0
    · rw [if_pos hc] at h1
      by_cases hd : c b e = 0
      · rw [if_pos hd] at h2
        rw [if_pos (h.eq_trans hc hd)]
        exact listC_trans h x y z h1 h2
      · rw [if_neg hd] at h2
        have := h.le_lt (a := a) (b := b) (d := e) (by omega) (by omega)
        rw [if_neg (by omega)]; omega
    · rw [if_neg hc] at h1
      have h3 : c b e ≤ 0 := by
        by_cases hd : c b e = 0
        · omega
        · rw [if_neg hd] at h2; exact h2
      have := h.lt_le (a := a) (b := b) (d := e) (by omega) h3
      rw [if_neg (by omega)]; omega
theorem cmp_list {α : Type} {c : α → α → Int} (h : Cmp c) : Cmp (listC c) := ⟨listC_anti h, listC_trans h⟩
theorem listC_eq {α : Type} {c : α → α → Int} (he : ∀ a b, c a b = 0 → a = b) : ∀ a b, listC c a b = 0 → a = b
  | [], [], _ => rfl
  | [], _ :: _, h => by simp [listC] at h
  | _ :: _, [], h => by simp [listC] at h
  | a :: x, b :: y, h => by
    unfold listC at h
    by_cases hc : c a b = 0
    · rw [if_pos hc] at h
      rw [he a b hc, listC_eq he x y h]
    · rw [if_neg hc] at h; exact absurd h hc
def byteC (a b : UInt8) : Int := natC a.toNat b.toNat
theorem cmp_byte : Cmp byteC := cmp_on UInt8.toNat cmp_nat
theorem natC_eq {a b : Nat} (h : natC a b = 0) : a = b := by
  unfold natC at h; split at h
  · cases h
  · split at h
    · cases h
    · omega
theorem byteC_eq (a b : UInt8) (h : byteC a b = 0) : a = b := UInt8.toNat_inj.1 (natC_eq h)
def bytesC : List UInt8 → List UInt8 → Int := listC byteC
theorem cmp_bytes : Cmp bytesC := cmp_list cmp_byte
theorem bytesC_eq {a b : List UInt8} (h : bytesC a b = 0) : a = b := listC_eq byteC_eq a b h
theorem bytesC_less : ∀ a b, (bytesC a b < 0 ↔ Op.bytesLess a b = true)
  | [], [] => by simp [bytesC, listC, Op.bytesLess]
  | [], _ :: _ => by simp [bytesC, listC, Op.bytesLess]
  | _ :: _, [] => by simp [bytesC, listC, Op.bytesLess]
  | a :: x, b :: y => by
    have ih := bytesC_less x y
    unfold bytesC at ih ⊢
    unfold listC Op.bytesLess
    by_cases hc : byteC a b = 0
    · rw [if_pos hc]
      have := byteC_eq a b hc
      subst this
      simp only [Bool.or_eq_true, decide_eq_true_eq, Bool.and_eq_true, beq_self_eq_true, true_and]
      rw [ih]
      constructor
      · exact Or.inr
      · rintro (h | h)
        · exact absurd h (by rw [UInt8.lt_iff_toNat_lt]; omega)
        · exact h
    · rw [if_neg hc]
      have hne : (a == b) = false := beq_eq_false_iff_ne.2 (fun e => hc (by rw [e]; exact cmp_byte.refl b))
      rw [hne]
      simp only [Bool.false_and, Bool.or_false, decide_eq_true_eq]
      rw [UInt8.lt_iff_toNat_lt]
      unfold byteC natC
      unfold byteC natC at hc
      by_cases h1 : a.toNat < b.toNat
      · rw [if_pos h1]; simp [h1]
      · rw [if_neg h1]
        by_cases h2 : b.toNat < a.toNat
        · rw [if_pos h2]; simp [h1]
        · rw [if_neg h1, if_neg h2] at hc; exact absurd rfl hc
theorem natC_val (a b : Nat) : natC a b = -1 ∨ natC a b = 0 ∨ natC a b = 1 := by
  unfold natC; split
  · exact Or.inl rfl
  · split
    · exact Or.inr (Or.inr rfl)
    · exact Or.inr (Or.inl rfl)
theorem listC_val {α : Type} {c : α → α → Int} (hc : ∀ a b, c a b = -1 ∨ c a b = 0 ∨ c a b = 1) : ∀ a b, listC c a b = -1 ∨ listC c a b = 0 ∨ listC c a b = 1
  | [], [] => by simp [listC]
  | [], _ :: _ => by simp [listC]
  | _ :: _, [] => by simp [listC]
  | a :: x, b :: y => by
    unfold listC; split
    · exact listC_val hc x y
    · exact hc a b
theorem bytesC_val (a b : List UInt8) : bytesC a b = -1 ∨ bytesC a b = 0 ∨ bytesC a b = 1 := listC_val (fun _ _ => natC_val _ _) a b
theorem bytesC_form (a b : List UInt8) : bytesC a b = if Op.bytesLess a b then -1 else if a = b then 0 else 1 := by
  have h1 := bytesC_less a b
  by_cases hl : Op.bytesLess a b = true
  · rw [if_pos hl]
    rcases bytesC_val a b with h | h | h
    · exact h
    · have := h1.2 hl; omega
    · have := h1.2 hl; omega
  · rw [if_neg hl]
    by_cases he : a = b
    · rw [if_pos he, he]; exact cmp_bytes.refl b
    · rw [if_neg he]
      rcases bytesC_val a b with h | h | h
      · exact absurd (h1.1 (by omega)) hl
      · exact absurd (bytesC_eq h) he
      · exact h
def isDig (c : UInt8) : Bool := decide (48 ≤ c.toNat) && decide (c.toNat ≤ 57)
def idNum (l : List UInt8) : Bool := !l.isEmpty && l.all isDig
def bareZ : List UInt8 → List UInt8
  | c :: d :: r => if c = 48 then bareZ (d :: r) else c :: d :: r
  | l => l
def idKey (l : List UInt8) : Nat × Nat × List UInt8 := if idNum l then (0, (bareZ l).length, bareZ l) else (1, 0, l)
def keyC : Nat × Nat × List UInt8 → Nat × Nat × List UInt8 → Int := thenC (onC (·.1) natC) (thenC (onC (·.2.1) natC) (onC (·.2.2) bytesC))
def idC : List UInt8 → List UInt8 → Int := onC idKey keyC
theorem cmp_id : Cmp idC := cmp_on _ (cmp_then (cmp_on _ cmp_nat) (cmp_then (cmp_on _ cmp_nat) (cmp_on _ cmp_bytes)))
theorem idC_nn {a b : List UInt8} (ha : idNum a = true) (hb : idNum b = true) : idC a b = if (bareZ a).length = (bareZ b).length then bytesC (bareZ a) (bareZ b) else if (bareZ a).length < (bareZ b).length then -1 else 1 := by
  simp only [idC, onC, keyC, thenC, idKey, ha, hb, if_true]
  have e : natC 0 0 = 0 := rfl
  rw [if_pos e]
  by_cases h : (bareZ a).length = (bareZ b).length
  · rw [if_pos h, h, if_pos (cmp_nat.refl _)]
  · rw [if_neg h, if_neg (fun e => h (natC_eq e))]
    unfold natC
    split
    · rfl
    · rw [if_pos (by omega)]
theorem idC_na {a b : List UInt8} (ha : idNum a = true) (hb : idNum b = false) : idC a b = -1 := by
  simp only [idC, onC, keyC, thenC, idKey, ha, hb, if_true]; rfl
theorem idC_an {a b : List UInt8} (ha : idNum a = false) (hb : idNum b = true) : idC a b = 1 := by
  simp only [idC, onC, keyC, thenC, idKey, ha, hb, if_true]; rfl
theorem idC_aa {a b : List UInt8} (ha : idNum a = false) (hb : idNum b = false) : idC a b = bytesC a b := by
  simp only [idC, onC, keyC, thenC, idKey, ha, hb]; rfl
def firstI (l : List UInt8) : List UInt8 := l.takeWhile (· != 46)
def restI (l : List UInt8) : List UInt8 := (l.dropWhile (· != 46)).drop 1
theorem restI_lt {l : List UInt8} (h : l ≠ []) : (restI l).length < l.length := by
  unfold restI
  have h1 := (List.dropWhile_sublist (l := l) (· != 46)).length_le
  have h2 : 0 < l.length := List.length_pos_iff.2 h
  rw [List.length_drop]
  rcases Nat.eq_zero_or_pos (l.dropWhile (· != 46)).length with h0 | h0 <;> omega
def parts (l : List UInt8) : List (List UInt8) := if _h : l = [] then [] else firstI l :: parts (restI l)
termination_by l.length
decreasing_by exact restI_lt _h
theorem parts_nil : parts [] = [] := by unfold parts; rfl
theorem parts_cons {l : List UInt8} (h : l ≠ []) : parts l = firstI l :: parts (restI l) := by rw [parts]; rw [dif_neg h]
def noneC (l : List UInt8) : Nat := if l = [] then 1 else 0
def preC : List UInt8 → List UInt8 → Int := thenC (onC noneC natC) (onC parts (listC idC))
theorem cmp_pre : Cmp preC := cmp_then (cmp_on _ cmp_nat) (cmp_on _ (cmp_list cmp_id))
theorem preC_same (a : List UInt8) : preC a a = 0 := cmp_pre.refl a
theorem preC_left {b : List UInt8} (h : b ≠ []) : preC [] b = 1 := by
  unfold preC thenC onC noneC; rw [if_neg h, if_pos rfl]; rfl
theorem preC_right {a : List UInt8} (h : a ≠ []) : preC a [] = -1 := by
  unfold preC thenC onC noneC; rw [if_neg h, if_pos rfl]; rfl
theorem preC_both {a b : List UInt8} (ha : a ≠ []) (hb : b ≠ []) : preC a b = listC idC (parts a) (parts b) := by
  unfold preC thenC onC noneC; rw [if_neg ha, if_neg hb]; rfl
theorem partsC_step {a b : List UInt8} (ha : a ≠ []) (hb : b ≠ []) (h : idC (firstI a) (firstI b) = 0) : listC idC (parts a) (parts b) = listC idC (parts (restI a)) (parts (restI b)) := by
  rw [parts_cons ha, parts_cons hb, listC, if_pos h]
theorem partsC_stop {a b : List UInt8} (ha : a ≠ []) (hb : b ≠ []) (h : idC (firstI a) (firstI b) ≠ 0) : listC idC (parts a) (parts b) = idC (firstI a) (firstI b) := by
  rw [parts_cons ha, parts_cons hb, listC, if_neg h]
theorem partsC_none : listC idC (parts []) (parts []) = 0 := by rw [parts_nil]; rfl
theorem partsC_less {b : List UInt8} (hb : b ≠ []) : listC idC (parts []) (parts b) = -1 := by rw [parts_nil, parts_cons hb]; rfl
theorem partsC_more {a : List UInt8} (ha : a ≠ []) : listC idC (parts a) (parts []) = 1 := by rw [parts_nil, parts_cons ha]; rfl
end Go.Proofs.YtgoeiflddikihaaGreatDoor.Ord
end
section
namespace Go.Proofs.YtgoeiflddikihaaGreatDoor.Ver
open Go.Proofs.YtgoeiflddikihaaGreatDoor.Ord Go.Sort
def cmpV : SV → SV → Int := thenC (onC SV.major intC) (thenC (onC SV.minor intC) (thenC (onC SV.patch intC) (onC (fun v => v.pre.data.toList) preC)))
theorem cmp_v : Cmp cmpV := cmp_then (cmp_on _ cmp_int) (cmp_then (cmp_on _ cmp_int) (cmp_then (cmp_on _ cmp_int) (cmp_on _ cmp_pre)))
theorem intC_lt {a b : Int} (h : a < b) : intC a b = -1 := by unfold intC; rw [if_pos h]
theorem intC_gt {a b : Int} (h : b < a) : intC a b = 1 := by unfold intC; rw [if_neg (by omega), if_pos h]
theorem thenC_ne {α : Type} {c d : α → α → Int} {a b : α} {x : Int} (h : c a b = x) (hx : x ≠ 0) : thenC c d a b = x := by unfold thenC; rw [h, if_neg hx]
theorem thenC_go {α : Type} {c d : α → α → Int} {a b : α} {x : Int} (h : c a b = 0) (k : d a b = x) : thenC c d a b = x := by unfold thenC; rw [if_pos h]; exact k
def Unp.rank : Unp → Nat
  | .sem _ => 0
  | .branch _ _ => 1
  | .plain _ => 2
def Vers.rank : Vers → Nat
  | .rev _ => 3
  | .un u => u.rank
  | .pair u _ => u.rank
def Vers.bare : Vers → Vers
  | .pair u _ => .un u
  | v => v
def boolN (b : Bool) : Nat := if b then 0 else 1
def Vers.dflt : Vers → Nat
  | .un (.branch _ d) => boolN d
  | .pair (.branch _ d) _ => boolN d
  | _ => 0
def Vers.isPre : Vers → Nat
  | .un (.sem v) => boolN v.pre.data.toList.isEmpty
  | .pair (.sem v) _ => boolN v.pre.data.toList.isEmpty
  | _ => 0
def zV : SV := ⟨0, 0, 0, ⟨#[]⟩, ⟨#[]⟩, ⟨#[]⟩⟩
def Vers.sem : Vers → SV
  | .un (.sem v) => v
  | .pair (.sem v) _ => v
  | _ => zV
def Vers.name : Vers → List UInt8
  | .rev s => s.data.toList
  | .un (.branch n _) => n.data.toList
  | .pair (.branch n _) _ => n.data.toList
  | .un (.plain n) => n.data.toList
  | .pair (.plain n) _ => n.data.toList
  | _ => []
def flipC {α : Type} (down : Bool) (c : α → α → Int) (a b : α) : Int := if down then c a b else c b a
theorem cmp_flip {α : Type} {c : α → α → Int} (down : Bool) (h : Cmp c) : Cmp (flipC down c) := by
  cases down
  · exact ⟨fun a b => h.anti b a, fun a b d h1 h2 => h.trans d b a h2 h1⟩
  · exact h
def versC (down : Bool) : Vers → Vers → Int := thenC (onC Vers.rank natC) (thenC (onC Vers.dflt natC) (thenC (onC Vers.isPre natC) (thenC (onC Vers.name bytesC) (onC Vers.sem (flipC down cmpV)))))
theorem cmp_vers (down : Bool) : Cmp (versC down) := cmp_then (cmp_on _ cmp_nat) (cmp_then (cmp_on _ cmp_nat) (cmp_then (cmp_on _ cmp_nat) (cmp_then (cmp_on _ cmp_bytes) (cmp_on _ (cmp_flip down cmp_v)))))
def lessV (down : Bool) (a b : Vers) : Bool := decide (versC down a b < 0)
theorem swo_vers (down : Bool) : SWO (lessV down) := by
  have h := cmp_vers down
  refine ⟨fun x => ?_, fun x y z h1 h2 => ?_, fun x y z h1 h2 => ?_⟩
  · unfold lessV; rw [h.refl x]; rfl
  · unfold lessV at *
    rw [decide_eq_true_eq] at *
    exact h.lt_le h1 (by omega)
  · unfold lessV at *
    rw [decide_eq_false_iff_not] at *
    have a1 := h.anti x y
    have a2 := h.anti y z
    have a3 := h.anti x z
    have := h.trans z y x (by omega) (by omega)
    omega
theorem less_rank {down : Bool} {a b : Vers} (h : a.rank ≠ b.rank) : lessV down a b = decide (a.rank < b.rank) := by
  have h2 : onC Vers.rank natC a b ≠ 0 := fun e => h (natC_eq e)
  unfold lessV versC thenC
  rw [if_neg h2]
  unfold onC natC
  by_cases hl : a.rank < b.rank
  · simp [hl]
  · rw [if_neg hl, if_pos (by omega)]; simp [hl]
theorem less_bare {down : Bool} {a b : Vers} : lessV down a.bare b.bare = lessV down a b := by
  rcases a with _ | u | ⟨u, _⟩ <;> rcases b with _ | x | ⟨x, _⟩ <;> (try cases u) <;> (try cases x) <;> rfl
theorem less_branch {down : Bool} {n m : ByteArray} {d e : Bool} : lessV down (.un (.branch n d)) (.un (.branch m e)) = if d = e then Op.bytesLess n.data.toList m.data.toList else d := by
  have hb := bytesC_less n.data.toList m.data.toList
  unfold lessV versC thenC onC
  have e1 : natC (Vers.rank (.un (.branch n d))) (Vers.rank (.un (.branch m e))) = 0 := rfl
  rw [if_pos e1]
  have e2 : natC (Vers.isPre (.un (.branch n d))) (Vers.isPre (.un (.branch m e))) = 0 := rfl
  have e3 : flipC down cmpV (Vers.sem (.un (.branch n d))) (Vers.sem (.un (.branch m e))) = 0 := (cmp_flip down cmp_v).refl zV
  rw [if_pos e2, e3]
  show decide ((if natC (boolN d) (boolN e) = 0 then (if bytesC n.data.toList m.data.toList = 0 then 0 else bytesC n.data.toList m.data.toList) else natC (boolN d) (boolN e)) < 0) = _
  have e4 : (if bytesC n.data.toList m.data.toList = 0 then 0 else bytesC n.data.toList m.data.toList) = bytesC n.data.toList m.data.toList := by split <;> omega
  rw [e4, Bool.eq_iff_iff, decide_eq_true_eq]
  cases d <;> cases e
  · exact hb
  · simp [boolN, natC]
  · simp [boolN, natC]
  · exact hb
theorem less_name {down : Bool} {a b : Vers} (h1 : a.rank = b.rank) (h2 : a.dflt = b.dflt) (h3 : a.isPre = b.isPre) (h4 : a.sem = zV) (h5 : b.sem = zV) : lessV down a b = Op.bytesLess a.name b.name := by
  have hb := bytesC_less a.name b.name
  unfold lessV versC thenC onC
  rw [h1, h2, h3, h4, h5]
  rw [if_pos (cmp_nat.refl _), if_pos (cmp_nat.refl _), if_pos (cmp_nat.refl _), (cmp_flip down cmp_v).refl zV]
  have e4 : (if bytesC a.name b.name = 0 then 0 else bytesC a.name b.name) = bytesC a.name b.name := by split <;> omega
  rw [e4, Bool.eq_iff_iff, decide_eq_true_eq]
  exact hb
theorem less_rev {down : Bool} {s t : ByteArray} : lessV down (.rev s) (.rev t) = Op.bytesLess s.data.toList t.data.toList := less_name rfl rfl rfl rfl rfl
theorem less_plain {down : Bool} {s t : ByteArray} : lessV down (.un (.plain s)) (.un (.plain t)) = Op.bytesLess s.data.toList t.data.toList := less_name rfl rfl rfl rfl rfl
theorem less_sem {down : Bool} {v w : SV} : lessV down (.un (.sem v)) (.un (.sem w)) = if v.pre.data.toList.isEmpty = w.pre.data.toList.isEmpty then (if down then decide (cmpV v w < 0) else decide (cmpV v w > 0)) else v.pre.data.toList.isEmpty := by
  have ha := cmp_v.anti v w
  unfold lessV versC thenC onC
  have e1 : natC (Vers.rank (.un (.sem v))) (Vers.rank (.un (.sem w))) = 0 := rfl
  have e2 : natC (Vers.dflt (.un (.sem v))) (Vers.dflt (.un (.sem w))) = 0 := rfl
  have e3 : bytesC (Vers.name (.un (.sem v))) (Vers.name (.un (.sem w))) = 0 := rfl
  rw [if_pos e1, if_pos e2, if_pos e3]
  show decide ((if natC (boolN v.pre.data.toList.isEmpty) (boolN w.pre.data.toList.isEmpty) = 0 then flipC down cmpV v w else natC (boolN v.pre.data.toList.isEmpty) (boolN w.pre.data.toList.isEmpty)) < 0) = _
  generalize v.pre.data.toList.isEmpty = x
  generalize w.pre.data.toList.isEmpty = y
  cases x <;> cases y
  · simp only [boolN, natC, flipC]
    cases down
    · simp; omega
    · simp
  · simp [boolN, natC]
  · simp [boolN, natC]
  · simp only [boolN, natC, flipC]
    cases down
    · simp; omega
    · simp
end Go.Proofs.YtgoeiflddikihaaGreatDoor.Ver
end
section
namespace Go.Proofs.YtgoeiflddikihaaGreatDoor.Ver
open Go.Proofs.YtgoeiflddikihaaGreatDoor.Ord
def preParts (l : List UInt8) : List (List UInt8) := if l = [] then [] else qSplitOn 46 l
end Go.Proofs.YtgoeiflddikihaaGreatDoor.Ver
end
section
namespace Go.Proofs.YtgoeiflddikihaaGreatDoor.PFnVersion
open Go.RowKit Go.Proofs.YtgoeiflddikihaaGreatDoorW.PrintWords Go.Proofs.YtgoeiflddikihaaGreatDoorW.PrintLast Go.Proofs.YtgoeiflddikihaaGreatDoorW.PrintMore
attribute [local go_sem] max2_int min2_int max_two min_two max_three min_three max_four min_four   -- for this text's walks alone
set_option linter.unusedVariables false
set_option linter.unusedSimpArgs false
def errW : Option Int → Value
  | none => .nilIface
  | some c => .iface 267 (.int .i64 c)
theorem errW_none : errW none = .nilIface := rfl
theorem errW_some (c : Int) : errW (some c) = .iface 267 (.int .i64 c) := rfl
theorem info9 : (Tryz.prog.info? 9).map (fun i => (i.zero, i.size, i.bytes)) = some (some (.string ⟨#[]⟩), 1, 16) := by kernel_rfl
end Go.Proofs.YtgoeiflddikihaaGreatDoor.PFnVersion
end
section
namespace Go.Proofs.YtgoeiflddikihaaGreatDoor.PFnVersion
open Go.RowKit Go.Proofs.YtgoeiflddikihaaGreatDoorW.PrintWords Go.Proofs.YtgoeiflddikihaaGreatDoorW.PrintLast Go.Proofs.YtgoeiflddikihaaGreatDoorW.PrintMore
attribute [local go_sem] max2_int min2_int max_two min_two max_three min_three max_four min_four   -- for this text's walks alone
set_option linter.unusedVariables false
set_option linter.unusedSimpArgs false
mutual
def spec_VerPlain.l0 : Nat → ByteArray → Int → Int → Option (Bool)
  | 0, _, _, _ => none
  | k + 1, x0, x1, x5 => if x5 < (x0.size : Int) then (spec_VerPlain.j1 k x0 x1 x5 (decide (x5 ≤ x1))) else (spec_VerPlain.j1 k x0 x1 x5 false)
def spec_VerPlain.j1 : Nat → ByteArray → Int → Int → Bool → Option (Bool)
  | 0, _, _, _, _ => none
  | k + 1, x0, x1, x5, x14 => if x14 = true then (if 0 ≤ x5 then (if x5 < (x0.size : Int) then (if (bt x0 x5) < 33 then (some false) else (if (bt x0 x5) > 126 then (some false) else (spec_VerPlain.l0 k x0 x1 (wrap64 (x5 + 1))))) else (none)) else (none)) else (if (x0.size : Int) > 0 then (some (decide ((x0.size : Int) ≤ x1))) else (some false))
end
def spec_VerPlain.f (k : Nat) (a0 : ByteArray) (a1 : Int) : Option (Bool) := spec_VerPlain.l0 k a0 a1 0
theorem spec_VerPlain.mono_l : ∀ k, (∀ y0 y1 y2, LeO (spec_VerPlain.l0 k y0 y1 y2) (spec_VerPlain.l0 (k + 1) y0 y1 y2)) ∧ (∀ y0 y1 y2 y3, LeO (spec_VerPlain.j1 k y0 y1 y2 y3) (spec_VerPlain.j1 (k + 1) y0 y1 y2 y3))
  | 0 => ⟨fun _ _ _ r h => by simp [spec_VerPlain.l0] at h, fun _ _ _ _ r h => by simp [spec_VerPlain.j1] at h⟩
  | k + 1 => by
    obtain ⟨ih0, ih1⟩ := spec_VerPlain.mono_l k
    refine ⟨?_, ?_⟩
    · intro y0 y1 y2
      unfold spec_VerPlain.l0
      repeat' first
      | (with_reducible exact ih0 _ _ _)
      | (with_reducible exact ih1 _ _ _ _)
      | (with_reducible exact LeO.refl _)
      | (with_reducible exact LeO.none _)
      | (with_reducible refine LeO.ite ?_ ?_)
      | (with_reducible refine LeO.bind ?_ (fun _ => ?_))
      | exact ih0 _ _ _
      | exact ih1 _ _ _ _
      | exact LeO.none _
      | refine LeO.ite ?_ ?_
      | refine LeO.bind ?_ (fun _ => ?_)
    · intro y0 y1 y2 y3
      unfold spec_VerPlain.j1
      repeat' first
      | (with_reducible exact ih0 _ _ _)
      | (with_reducible exact ih1 _ _ _ _)
      | (with_reducible exact LeO.refl _)
      | (with_reducible exact LeO.none _)
      | (with_reducible refine LeO.ite ?_ ?_)
      | (with_reducible refine LeO.bind ?_ (fun _ => ?_))
      | exact ih0 _ _ _
      | exact ih1 _ _ _ _
      | exact LeO.none _
      | refine LeO.ite ?_ ?_
      | refine LeO.bind ?_ (fun _ => ?_)
theorem spec_VerPlain.mono : ∀ a0 a1 k, LeO (spec_VerPlain.f k a0 a1) (spec_VerPlain.f (k + 1) a0 a1) := by
  intro a0 a1 k
  obtain ⟨ih0, ih1⟩ := spec_VerPlain.mono_l k
  unfold spec_VerPlain.f
  repeat' first
      | (with_reducible exact ih0 _ _ _)
      | (with_reducible exact ih1 _ _ _ _)
      | (with_reducible exact LeO.refl _)
      | (with_reducible exact LeO.none _)
      | (with_reducible refine LeO.ite ?_ ?_)
      | (with_reducible refine LeO.bind ?_ (fun _ => ?_))
      | exact ih0 _ _ _
      | exact ih1 _ _ _ _
      | exact LeO.none _
      | refine LeO.ite ?_ ?_
      | refine LeO.bind ?_ (fun _ => ?_)
set_option maxHeartbeats 8000000 in
set_option maxRecDepth 100000 in
theorem spec_VerPlain.calls (k : Nat) (a0 : ByteArray) (a1 : Int) (r : Bool) (w : World) (h : spec_VerPlain.f k a0 a1 = some r) :
    Calls Tryz.prog 33 #[.string a0, .int .i64 a1] w fun e w' => e = .returned (.bool r) ∧ Drawn0 w w' := by
  have H : (spec_VerPlain.l0 k a0 a1 0) = some r := h
  clear h
  have H' := Aside0.mk H
  clear H
  go_enter Tryz.func33, Tryz.ntmps33
  go_wp2
  go_loopg [5] k (fun kq v5 w' => ∃ (x5_1 : Int), v5 = .int .i64 x5_1 ∧ Aside0 (spec_VerPlain.l0 kq a0 a1 x5_1 = some r) ∧ Aside0 (kq ≤ k) ∧ Drawn0 w w')
  case atStart => exact ⟨(0), (by first | rfl | (simp; done) | (simp [*]; done)), H', ⟨Nat.le_refl _⟩, by repeat (first | exact Drawn0.refl _ | apply Drawn0.step)⟩
  case round =>
    clear H'
    try clear p2
    obtain ⟨x5_1, rfl, HA, HK1, ⟨m1, rfl⟩⟩ := hrel
    cases gk with
    | zero => exact absurd HA.out (by simp [spec_VerPlain.l0])
    | succ k1 =>
      have H := HA.out
      clear HA
      simp only [spec_VerPlain.l0] at H
      have HC3 := Aside0.mk H
      clear H
      go_upto_region 2 with (fail)
      go_cut [14] (fun v14 wc => ∃ (kq : Nat) (x14_2 : Bool), v14 = .bool x14_2 ∧ Aside0 (spec_VerPlain.j1 kq a0 a1 x5_1 x14_2 = some r) ∧ Aside0 (kq ≤ k1) ∧ Drawn0 w wc)
      case first =>
        have H := HC3.out
        clear HC3
        by_cases c4 : x5_1 < (a0.size : Int)
        · rw [if_pos c4] at H
          have c4b0 : decide (x5_1 < (a0.size : Int)) = true := decide_eq_true c4
          clear c4
          (first | rw [c4b0] | (simp only [i64_w, i32_w]; rw [c4b0]) | skip)
          have H' := Aside0.mk H
          clear H
          go_wp2
          go_meet
          case rel => exact ⟨_, (decide (x5_1 ≤ a1)), (by first | rfl | (simp; done) | (simp [*]; done)), H', ⟨by have := HK1.out; first | omega | exact Nat.le_refl _⟩, by repeat (first | exact Drawn0.refl _ | apply Drawn0.step)⟩
        · rw [if_neg c4] at H
          have c4b0 : decide (x5_1 < (a0.size : Int)) = false := decide_eq_false c4
          clear c4
          (first | rw [c4b0] | (simp only [i64_w, i32_w]; rw [c4b0]) | skip)
          have H' := Aside0.mk H
          clear H
          go_wp2
          go_meet
          case rel => exact ⟨_, (false), (by first | rfl | (simp; done) | (simp [*]; done)), H', ⟨by have := HK1.out; first | omega | exact Nat.le_refl _⟩, by repeat (first | exact Drawn0.refl _ | apply Drawn0.step)⟩
      case rest =>
        clear HC3
        try clear p2
        try clear c3
        try clear c4
        try clear c4b0
        try clear p2
        obtain ⟨kq, x14_2, rfl, HA, HJ2, ⟨mc2, rfl⟩⟩ := hcut
        cases kq with
        | zero => exact absurd HA.out (by simp [spec_VerPlain.j1])
        | succ kj2 =>
          have H := HA.out
          clear HA
          simp only [spec_VerPlain.j1] at H
          by_cases c5 : x14_2 = true
          · subst c5
            have H1 : (if 0 ≤ x5_1 then (if x5_1 < (a0.size : Int) then (if (bt a0 x5_1) < 33 then (some false) else (if (bt a0 x5_1) > 126 then (some false) else (spec_VerPlain.l0 kj2 a0 a1 (wrap64 (x5_1 + 1))))) else (none)) else (none)) = some r := by rw [if_pos rfl] at H; exact H
            clear H
            have H := H1
            clear H1
            by_cases c6 : 0 ≤ x5_1
            · rw [if_pos c6] at H
              have c6b0 : decide (0 ≤ x5_1) = true := decide_eq_true c6
              clear c6
              by_cases c7 : x5_1 < (a0.size : Int)
              · rw [if_pos c7] at H
                have c7b0 : decide (x5_1 < (a0.size : Int)) = true := decide_eq_true c7
                clear c7
                by_cases c9 : (bt a0 x5_1) < 33
                · rw [if_pos c9] at H
                  have c9b0 : decide ((bt a0 x5_1) < 33) = true := decide_eq_true c9
                  clear c9
                  obtain rfl := Option.some.inj H
                  have p8 : 0 ≤ (x5_1 : Int) := of_decide_eq_true (by first | (with_reducible assumption) | assumption)
                  have q8 : x5_1 < (a0.size : Int) := of_decide_eq_true (by first | (with_reducible assumption) | assumption)
                  have hx8 := bt_at a0 x5_1
                  replace p8 := eq_true p8
                  replace q8 := eq_true q8
                  go_wp2
                  go_ret
                  exact ⟨by first | rfl | (simp; done) | (simp [*]; done), by repeat (first | exact Drawn0.refl _ | apply Drawn0.step)⟩
                · rw [if_neg c9] at H
                  have c9b0 : decide ((bt a0 x5_1) < 33) = false := decide_eq_false c9
                  clear c9
                  by_cases c11 : (bt a0 x5_1) > 126
                  · rw [if_pos c11] at H
                    have c11b0 : decide (126 < (bt a0 x5_1)) = true := decide_eq_true c11
                    clear c11
                    obtain rfl := Option.some.inj H
                    have p8 : 0 ≤ (x5_1 : Int) := of_decide_eq_true (by first | (with_reducible assumption) | assumption)
                    have q8 : x5_1 < (a0.size : Int) := of_decide_eq_true (by first | (with_reducible assumption) | assumption)
                    have hx8 := bt_at a0 x5_1
                    replace p8 := eq_true p8
                    replace q8 := eq_true q8
                    have p10 : 0 ≤ (x5_1 : Int) := of_decide_eq_true (by first | (with_reducible assumption) | assumption)
                    have q10 : x5_1 < (a0.size : Int) := of_decide_eq_true (by first | (with_reducible assumption) | assumption)
                    have hx10 := bt_at a0 x5_1
                    replace p10 := eq_true p10
                    replace q10 := eq_true q10
                    go_wp2
                    go_ret
                    exact ⟨by first | rfl | (simp; done) | (simp [*]; done), by repeat (first | exact Drawn0.refl _ | apply Drawn0.step)⟩
                  · rw [if_neg c11] at H
                    have c11b0 : decide (126 < (bt a0 x5_1)) = false := decide_eq_false c11
                    clear c11
                    have H' := Aside0.mk H
                    clear H
                    have p8 : 0 ≤ (x5_1 : Int) := of_decide_eq_true (by first | (with_reducible assumption) | assumption)
                    have q8 : x5_1 < (a0.size : Int) := of_decide_eq_true (by first | (with_reducible assumption) | assumption)
                    have hx8 := bt_at a0 x5_1
                    replace p8 := eq_true p8
                    replace q8 := eq_true q8
                    have p10 : 0 ≤ (x5_1 : Int) := of_decide_eq_true (by first | (with_reducible assumption) | assumption)
                    have q10 : x5_1 < (a0.size : Int) := of_decide_eq_true (by first | (with_reducible assumption) | assumption)
                    have hx10 := bt_at a0 x5_1
                    replace p10 := eq_true p10
                    replace q10 := eq_true q10
                    go_wp2
                    go_roundg kj2
                    case measure => have := HK1.out; have := HJ2.out; omega
                    case rel => exact ⟨(wrap64 (x5_1 + 1)), (by first | rfl | (simp; done) | (simp [*]; done)), H', ⟨by have := HK1.out; have := HJ2.out; omega⟩, by repeat (first | exact Drawn0.refl _ | apply Drawn0.step)⟩
              · rw [if_neg c7] at H
                exact absurd H (by simp)
            · rw [if_neg c6] at H
              exact absurd H (by simp)
          · replace c5 := Bool.eq_false_iff.mpr c5
            subst c5
            have H1 : (if (a0.size : Int) > 0 then (some (decide ((a0.size : Int) ≤ a1))) else (some false)) = some r := by rw [if_neg (show ¬ (false = true) by decide)] at H; exact H
            clear H
            have H := H1
            clear H1
            by_cases c12 : (a0.size : Int) > 0
            · rw [if_pos c12] at H
              have c12b0 : decide (0 < (a0.size : Int)) = true := decide_eq_true c12
              have c12b1 : decide (0 < a0.size) = true := decide_eq_true (by omega)
              clear c12
              obtain rfl := Option.some.inj H
              go_wp2
              go_ret
              exact ⟨by first | rfl | (simp; done) | (simp [*]; done), by repeat (first | exact Drawn0.refl _ | apply Drawn0.step)⟩
            · rw [if_neg c12] at H
              have c12b0 : decide (0 < (a0.size : Int)) = false := decide_eq_false c12
              have c12b1 : decide (0 < a0.size) = false := decide_eq_false (by omega)
              clear c12
              obtain rfl := Option.some.inj H
              go_wp2
              go_ret
              exact ⟨by first | rfl | (simp; done) | (simp [*]; done), by repeat (first | exact Drawn0.refl _ | apply Drawn0.step)⟩
def spec_verCut.l0 : Nat → ByteArray → Int → Int → Option (ByteArray × ByteArray × Bool)
  | 0, _, _, _ => none
  | k + 1, x0, x1, x7 => if x7 < (x0.size : Int) then (if 0 ≤ x7 then (if (bt x0 x7) = x1 then (if x7 ≤ (x0.size : Int) then (if 0 ≤ (wrap64 (x7 + 1)) then (if (wrap64 (x7 + 1)) ≤ (x0.size : Int) then (some (x0.extract 0 (x7 : Int).toNat, x0.extract ((wrap64 (x7 + 1)) : Int).toNat x0.size, true)) else (none)) else (none)) else (none)) else (spec_verCut.l0 k x0 x1 (wrap64 (x7 + 1)))) else (none)) else (some (x0, (⟨#[]⟩ : ByteArray), false))
def spec_verCut.f (k : Nat) (a0 : ByteArray) (a1 : Int) : Option (ByteArray × ByteArray × Bool) := spec_verCut.l0 k a0 a1 0
theorem spec_verCut.mono_l : ∀ k, (∀ y0 y1 y2, LeO (spec_verCut.l0 k y0 y1 y2) (spec_verCut.l0 (k + 1) y0 y1 y2))
  | 0 => fun _ _ _ r h => by simp [spec_verCut.l0] at h
  | k + 1 => by
    have ih0 := spec_verCut.mono_l k
    · intro y0 y1 y2
      unfold spec_verCut.l0
      repeat' first
      | (with_reducible exact ih0 _ _ _)
      | (with_reducible exact LeO.refl _)
      | (with_reducible exact LeO.none _)
      | (with_reducible refine LeO.ite ?_ ?_)
      | (with_reducible refine LeO.bind ?_ (fun _ => ?_))
      | exact ih0 _ _ _
      | exact LeO.none _
      | refine LeO.ite ?_ ?_
      | refine LeO.bind ?_ (fun _ => ?_)
theorem spec_verCut.mono : ∀ a0 a1 k, LeO (spec_verCut.f k a0 a1) (spec_verCut.f (k + 1) a0 a1) := by
  intro a0 a1 k
  have ih0 := spec_verCut.mono_l k
  unfold spec_verCut.f
  repeat' first
      | (with_reducible exact ih0 _ _ _)
      | (with_reducible exact LeO.refl _)
      | (with_reducible exact LeO.none _)
      | (with_reducible refine LeO.ite ?_ ?_)
      | (with_reducible refine LeO.bind ?_ (fun _ => ?_))
      | exact ih0 _ _ _
      | exact LeO.none _
      | refine LeO.ite ?_ ?_
      | refine LeO.bind ?_ (fun _ => ?_)
set_option maxHeartbeats 8000000 in
set_option maxRecDepth 100000 in
theorem spec_verCut.calls (k : Nat) (a0 : ByteArray) (a1 : Int) (r1 : ByteArray) (r2 : ByteArray) (r3 : Bool) (w : World) (h : spec_verCut.f k a0 a1 = some (r1, r2, r3)) :
    Calls Tryz.prog 71 #[.string a0, .int .u8 a1] w fun e w' => e = .returned (.tuple #[.string r1, .string r2, .bool r3]) ∧ Drawn0 w w' := by
  have H : (spec_verCut.l0 k a0 a1 0) = some (r1, r2, r3) := h
  clear h
  have H' := Aside0.mk H
  clear H
  go_enter Tryz.func71, Tryz.ntmps71
  go_wp2
  repeat (go_quiet (fail); try go_wp2)
  go_loopg [7] k (fun kq v7 w' => ∃ (x7_1 : Int), v7 = .int .i64 x7_1 ∧ Aside0 (spec_verCut.l0 kq a0 a1 x7_1 = some (r1, r2, r3)) ∧ Aside0 (kq ≤ k) ∧ Drawn0 w w')
  case atStart => exact ⟨(0), (by first | rfl | (simp; done) | (simp [*]; done)), H', ⟨Nat.le_refl _⟩, by repeat (first | exact Drawn0.refl _ | apply Drawn0.step)⟩
  case round =>
    clear H'
    try clear p2
    obtain ⟨x7_1, rfl, HA, HK1, ⟨m1, rfl⟩⟩ := hrel
    cases gk with
    | zero => exact absurd HA.out (by simp [spec_verCut.l0])
    | succ k1 =>
      have H := HA.out
      clear HA
      simp only [spec_verCut.l0] at H
      by_cases c3 : x7_1 < (a0.size : Int)
      · rw [if_pos c3] at H
        have c3b0 : decide (x7_1 < (a0.size : Int)) = true := decide_eq_true c3
        clear c3
        by_cases c4 : 0 ≤ x7_1
        · rw [if_pos c4] at H
          have c4b0 : decide (0 ≤ x7_1) = true := decide_eq_true c4
          clear c4
          by_cases c6 : (bt a0 x7_1) = a1
          · rw [if_pos c6] at H
            have c6b0 : ((bt a0 x7_1) == a1) = true := beq_iff_eq.mpr c6
            have c6b1 : ((bt a0 x7_1) != a1) = false := bne_eq_false_iff_eq.mpr c6
            clear c6
            have c7b0 := eq_true (of_decide_eq_true (by first | (with_reducible assumption) | assumption) : 0 ≤ x7_1)
            by_cases c8 : x7_1 ≤ (a0.size : Int)
            · rw [if_pos c8] at H
              have c8b0 := eq_true c8
              have c8b1 : decide (x7_1 ≤ (a0.size : Int)) = true := decide_eq_true c8
              clear c8
              obtain ⟨ji9, hji9⟩ : ∃ j_ : Int, (wrap64 (x7_1 + 1)) = j_ := ⟨_, rfl⟩
              replace H : (if 0 ≤ (ji9) then (if (ji9) ≤ (a0.size : Int) then (some (a0.extract 0 (x7_1 : Int).toNat, a0.extract ((ji9) : Int).toNat a0.size, true)) else (none)) else (none)) = some (r1, r2, r3) := by first | (rw [hji9] at H; exact H) | (simp only [hji9] at H ⊢; exact H)
              have hji9w : (IntKind.i64.wrap (x7_1 + 1)) = ji9 := (i64_w _).trans hji9
              by_cases c10 : 0 ≤ (ji9)
              · rw [if_pos c10] at H
                have c10b0 := eq_true c10
                have c10b1 : decide (0 ≤ (ji9)) = true := decide_eq_true c10
                clear c10
                by_cases c11 : (ji9) ≤ (a0.size : Int)
                · rw [if_pos c11] at H
                  have c11b0 := eq_true c11
                  have c11b1 : decide ((ji9) ≤ (a0.size : Int)) = true := decide_eq_true c11
                  clear c11
                  simp only [Option.some.injEq, Prod.mk.injEq] at H
                  obtain ⟨rfl, rfl, rfl⟩ := H
                  have p5 : 0 ≤ (x7_1 : Int) := of_decide_eq_true (by first | (with_reducible assumption) | assumption)
                  have q5 : x7_1 < (a0.size : Int) := of_decide_eq_true (by first | (with_reducible assumption) | assumption)
                  have hx5 := bt_at a0 x7_1
                  replace p5 := eq_true p5
                  replace q5 := eq_true q5
                  go_wp2
                  repeat (go_quiet (fail); try go_wp2)
                  go_ret3
                  exact ⟨by first | rfl | (simp; done) | (simp only [← hji9] <;> (first | rfl | simp)) | (simp [*]; done), by repeat (first | exact Drawn0.refl _ | apply Drawn0.step)⟩
                · rw [if_neg c11] at H
                  exact absurd H (by simp)
              · rw [if_neg c10] at H
                exact absurd H (by simp)
            · rw [if_neg c8] at H
              exact absurd H (by simp)
          · rw [if_neg c6] at H
            have c6b0 : ((bt a0 x7_1) == a1) = false := beq_eq_false_iff_ne.mpr c6
            have c6b1 : ((bt a0 x7_1) != a1) = true := bne_iff_ne.mpr c6
            have H' := Aside0.mk H
            clear H
            have p5 : 0 ≤ (x7_1 : Int) := of_decide_eq_true (by first | (with_reducible assumption) | assumption)
            have q5 : x7_1 < (a0.size : Int) := of_decide_eq_true (by first | (with_reducible assumption) | assumption)
            have hx5 := bt_at a0 x7_1
            replace p5 := eq_true p5
            replace q5 := eq_true q5
            go_wp2
            repeat (go_quiet (fail); try go_wp2)
            go_roundg k1
            case measure => have := HK1.out; omega
            case rel => exact ⟨(wrap64 (x7_1 + 1)), (by first | rfl | (simp; done) | (simp [*]; done)), H', ⟨by have := HK1.out; omega⟩, by repeat (first | exact Drawn0.refl _ | apply Drawn0.step)⟩
        · rw [if_neg c4] at H
          exact absurd H (by simp)
      · rw [if_neg c3] at H
        have c3b0 : decide (x7_1 < (a0.size : Int)) = false := decide_eq_false c3
        clear c3
        simp only [Option.some.injEq, Prod.mk.injEq] at H
        obtain ⟨rfl, rfl, rfl⟩ := H
        go_wp2
        repeat (go_quiet (fail); try go_wp2)
        go_ret3
        exact ⟨by first | rfl | (simp; done) | (simp [*]; done), by repeat (first | exact Drawn0.refl _ | apply Drawn0.step)⟩
end Go.Proofs.YtgoeiflddikihaaGreatDoor.PFnVersion
end
section
namespace Go.Proofs.YtgoeiflddikihaaGreatDoor.PFnVersion
open Go.RowKit Go.Proofs.YtgoeiflddikihaaGreatDoorW.PrintWords Go.Proofs.YtgoeiflddikihaaGreatDoorW.PrintLast Go.Proofs.YtgoeiflddikihaaGreatDoorW.PrintMore
attribute [local go_sem] max2_int min2_int max_two min_two max_three min_three max_four min_four   -- for this text's walks alone
set_option linter.unusedVariables false
set_option linter.unusedSimpArgs false
def spec_verSplit.l0 : Nat → ByteArray → Int → List ByteArray → Int → Int → Option (List ByteArray)
  | 0, _, _, _, _, _ => none
  | k + 1, x0, x1, x5, x6, x7 => if x7 ≤ (x0.size : Int) then (if x7 = (x0.size : Int) then (if 0 ≤ x6 then (if x6 ≤ x7 then (if x5.length < 8796093022208 then (spec_verSplit.l0 k x0 x1 (x5 ++ [x0.extract (x6 : Int).toNat (x7 : Int).toNat]) (wrap64 (x7 + 1)) (wrap64 (x7 + 1))) else (none)) else (none)) else (none)) else (if 0 ≤ x7 then (if x7 < (x0.size : Int) then (if (bt x0 x7) = x1 then (if 0 ≤ x6 then (if x6 ≤ x7 then (if x5.length < 8796093022208 then (spec_verSplit.l0 k x0 x1 (x5 ++ [x0.extract (x6 : Int).toNat (x7 : Int).toNat]) (wrap64 (x7 + 1)) (wrap64 (x7 + 1))) else (none)) else (none)) else (none)) else (spec_verSplit.l0 k x0 x1 x5 x6 (wrap64 (x7 + 1)))) else (none)) else (none))) else (some x5)
def spec_verSplit.f (k : Nat) (a0 : ByteArray) (a1 : Int) : Option (List ByteArray) := spec_verSplit.l0 k a0 a1 ([] : List ByteArray) 0 0
theorem spec_verSplit.mono_l : ∀ k, (∀ y0 y1 y2 y3 y4, LeO (spec_verSplit.l0 k y0 y1 y2 y3 y4) (spec_verSplit.l0 (k + 1) y0 y1 y2 y3 y4))
  | 0 => fun _ _ _ _ _ r h => by simp [spec_verSplit.l0] at h
  | k + 1 => by
    have ih0 := spec_verSplit.mono_l k
    · intro y0 y1 y2 y3 y4
      unfold spec_verSplit.l0
      repeat' first
      | (with_reducible exact ih0 _ _ _ _ _)
      | (with_reducible exact LeO.refl _)
      | (with_reducible exact LeO.none _)
      | (with_reducible refine LeO.ite ?_ ?_)
      | (with_reducible refine LeO.bind ?_ (fun _ => ?_))
      | exact ih0 _ _ _ _ _
      | exact LeO.none _
      | refine LeO.ite ?_ ?_
      | refine LeO.bind ?_ (fun _ => ?_)
theorem spec_verSplit.mono : ∀ a0 a1 k, LeO (spec_verSplit.f k a0 a1) (spec_verSplit.f (k + 1) a0 a1) := by
  intro a0 a1 k
  have ih0 := spec_verSplit.mono_l k
  unfold spec_verSplit.f
  repeat' first
      | (with_reducible exact ih0 _ _ _ _ _)
      | (with_reducible exact LeO.refl _)
      | (with_reducible exact LeO.none _)
      | (with_reducible refine LeO.ite ?_ ?_)
      | (with_reducible refine LeO.bind ?_ (fun _ => ?_))
      | exact ih0 _ _ _ _ _
      | exact LeO.none _
      | refine LeO.ite ?_ ?_
      | refine LeO.bind ?_ (fun _ => ?_)
set_option maxHeartbeats 8000000 in
set_option maxRecDepth 100000 in
theorem spec_verSplit.calls (k : Nat) (a0 : ByteArray) (a1 : Int) (r : List ByteArray) (w : World) (h : spec_verSplit.f k a0 a1 = some r) :
    Calls Tryz.prog 73 #[.string a0, .int .u8 a1] w fun e w' => ∃ v0_ : Value, e = .returned (v0_) ∧ Kd.R Kd.string 9 w' w.heap.size (fun _ => True) v0_ r ∧ Below w.heap.size w w' := by
  have HB := Aside0.mk (Below.refl w.heap.size w)
  have H : (spec_verSplit.l0 k a0 a1 ([] : List ByteArray) 0 0) = some r := h
  clear h
  have H' := Aside0.mk H
  clear H
  go_enter Tryz.func73, Tryz.ntmps73
  go_wp2
  go_loopg [5, 6, 7] k (fun kq v5 v6 v7 w' => ∃ (x5_1 : List ByteArray) (x6_1 : Int) (x7_1 : Int), v6 = .int .i64 x6_1 ∧ v7 = .int .i64 x7_1 ∧ Aside0 (spec_verSplit.l0 kq a0 a1 x5_1 x6_1 x7_1 = some r) ∧ Aside0 (kq ≤ k) ∧ Aside0 (Kd.R Kd.string 9 w' w.heap.size (fun _ => True) v5 x5_1) ∧ Aside0 (Below w.heap.size w w'))
  case atStart => exact ⟨(([] : List ByteArray)), (0), (0), (by first | rfl | (simp; done) | (simp [*]; done)), (by first | rfl | (simp; done) | (simp [*]; done)), H', ⟨Nat.le_refl _⟩, ⟨by first | exact Kd.R_nil _ _ _ _ _ | exact Kd.N_nil _ _ _ _ _ | exact Kd.V_nil _ _ _ _ _ | exact Kd.Q_nil _ _ _ _ _ | exact Kd.S_nil _ _ _ _ _⟩, ⟨by repeat (first | (with_reducible first | exact HB.out | apply below_alloc | apply pw_below_drewN | apply below_drew1) | exact HB.out)⟩⟩
  case round =>
    clear H'
    try clear p2
    obtain ⟨x5_1, x6_1, x7_1, rfl, rfl, HA, HK1, HO_5, HB⟩ := hrel
    cases gk with
    | zero => exact absurd HA.out (by simp [spec_verSplit.l0])
    | succ k1 =>
      have H := HA.out
      clear HA
      simp only [spec_verSplit.l0] at H
      by_cases c3 : x7_1 ≤ (a0.size : Int)
      · rw [if_pos c3] at H
        have c3b0 : decide (x7_1 ≤ (a0.size : Int)) = true := decide_eq_true c3
        clear c3
        by_cases c4 : x7_1 = (a0.size : Int)
        · rw [if_pos c4] at H
          have c4b0 : (x7_1 == (a0.size : Int)) = true := beq_iff_eq.mpr c4
          have c4b1 : (x7_1 != (a0.size : Int)) = false := bne_eq_false_iff_eq.mpr c4
          clear c4
          by_cases c5 : 0 ≤ x6_1
          · rw [if_pos c5] at H
            have c5b0 := eq_true c5
            have c5b1 : decide (0 ≤ x6_1) = true := decide_eq_true c5
            clear c5
            by_cases c6 : x6_1 ≤ x7_1
            · rw [if_pos c6] at H
              have c6b0 := eq_true c6
              have c6b1 : decide (x6_1 ≤ x7_1) = true := decide_eq_true c6
              clear c6
              have c7b0 := eq_true (of_decide_eq_true (by first | (with_reducible assumption) | assumption) : x7_1 ≤ (a0.size : Int))
              by_cases c8 : x5_1.length < 8796093022208
              · rw [if_pos c8] at H
                have LMc8 := Aside0.mk c8
                clear c8
                obtain ⟨y159, hy159⟩ : ∃ y_ : List ByteArray, y_ = (x5_1 ++ [a0.extract (x6_1 : Int).toNat (x7_1 : Int).toNat]) := ⟨_, rfl⟩
                replace H : (spec_verSplit.l0 k1 a0 a1 y159 (wrap64 (x7_1 + 1)) (wrap64 (x7_1 + 1))) = some r := by first | (rw [hy159]; with_reducible exact H) | (have H2_ := (Option.bind_some _ _).symm.trans H; rw [hy159]; with_reducible exact H2_) | (have H2_ := (Option.bind_some _ _).symm.trans H; with_reducible exact H2_) | with_reducible exact H | (rw [hy159]; exact H) | exact H
                have Ny159 := Aside0.mk hy159
                clear hy159
                have H' := Aside0.mk H
                clear H
                go_wp2_with (first | ((with_reducible refine gate_builtin (b := .append) (xs := #[.tmp 25, .tmp 30]) rfl ?_); at_builtin; refine Kd.R_append Kd.string (w0 := w) w.heap.size rfl (.tmp 25) (.tmp 30) 48 9 (.string ⟨#[]⟩) 16 rfl Tryz.underlying48 info9 rfl (by decide) (by omega) u5 x5_1 (a0.extract (x6_1 : Int).toNat (x7_1 : Int).toNat) [.string (a0.extract (x6_1 : Int).toNat (x7_1 : Int).toNat)] (fun _ => True) (fun _ => False) rfl rfl ?aP (fun _ hk => hk.elim) ?aF ?aO ?aB ?aS ?aL ?_; (case aP => exact rfl); (case aB => exact (by repeat (first | (with_reducible first | exact HB.out | apply below_alloc | apply pw_below_drewN | apply below_drew1) | exact HB.out))); (case aF => exact (fun _ _ => trivial)); (case aO => exact (by (with_reducible repeat (first | apply Kd.R_alloc | apply Kd.R_drewN | apply Kd.R_drew)); exact HO_5.out)); (case aS => exact (below_size (by repeat (first | (with_reducible first | exact HB.out | apply below_alloc | apply pw_below_drewN | apply below_drew1) | exact HB.out)))); (case aL => have := LMc8.out; omega); intro v160 w9 ho hb hg hat; rw [← Ny159.out] at ho; have n0_ := Aside0.mk (hb); have n1_ := Aside0.mk (ho); clear HB; clear HO_5; have HB := n0_; have HO161 := n1_; clear n0_ n1_; clear ho hb hg hat))
                go_roundg k1
                case measure => have := HK1.out; omega
                case rel => exact ⟨(y159), (wrap64 (x7_1 + 1)), (wrap64 (x7_1 + 1)), (by first | rfl | (simp; done) | (simp [*]; done)), (by first | rfl | (simp; done) | (simp [*]; done)), H', ⟨by have := HK1.out; omega⟩, ⟨by (with_reducible repeat (first | apply Kd.R_alloc | apply Kd.R_drewN | apply Kd.R_drew)); exact HO161.out⟩, ⟨by repeat (first | (with_reducible first | exact HB.out | apply below_alloc | apply pw_below_drewN | apply below_drew1) | exact HB.out)⟩⟩
              · rw [if_neg c8] at H
                exact absurd H (by simp)
            · rw [if_neg c6] at H
              exact absurd H (by simp)
          · rw [if_neg c5] at H
            exact absurd H (by simp)
        · rw [if_neg c4] at H
          have c4b0 : (x7_1 == (a0.size : Int)) = false := beq_eq_false_iff_ne.mpr c4
          have c4b1 : (x7_1 != (a0.size : Int)) = true := bne_iff_ne.mpr c4
          by_cases c10 : 0 ≤ x7_1
          · rw [if_pos c10] at H
            have c10b0 : decide (0 ≤ x7_1) = true := decide_eq_true c10
            clear c10
            by_cases c11 : x7_1 < (a0.size : Int)
            · rw [if_pos c11] at H
              have c11b0 : decide (x7_1 < (a0.size : Int)) = true := decide_eq_true c11
              clear c11
              by_cases c13 : (bt a0 x7_1) = a1
              · rw [if_pos c13] at H
                have c13b0 : ((bt a0 x7_1) == a1) = true := beq_iff_eq.mpr c13
                have c13b1 : ((bt a0 x7_1) != a1) = false := bne_eq_false_iff_eq.mpr c13
                clear c13
                by_cases c14 : 0 ≤ x6_1
                · rw [if_pos c14] at H
                  have c14b0 := eq_true c14
                  have c14b1 : decide (0 ≤ x6_1) = true := decide_eq_true c14
                  clear c14
                  by_cases c15 : x6_1 ≤ x7_1
                  · rw [if_pos c15] at H
                    have c15b0 := eq_true c15
                    have c15b1 : decide (x6_1 ≤ x7_1) = true := decide_eq_true c15
                    clear c15
                    have c16b0 := eq_true (of_decide_eq_true (by first | (with_reducible assumption) | assumption) : x7_1 ≤ (a0.size : Int))
                    by_cases c17 : x5_1.length < 8796093022208
                    · rw [if_pos c17] at H
                      have LMc17 := Aside0.mk c17
                      clear c17
                      obtain ⟨y162, hy162⟩ : ∃ y_ : List ByteArray, y_ = (x5_1 ++ [a0.extract (x6_1 : Int).toNat (x7_1 : Int).toNat]) := ⟨_, rfl⟩
                      replace H : (spec_verSplit.l0 k1 a0 a1 y162 (wrap64 (x7_1 + 1)) (wrap64 (x7_1 + 1))) = some r := by first | (rw [hy162]; with_reducible exact H) | (have H2_ := (Option.bind_some _ _).symm.trans H; rw [hy162]; with_reducible exact H2_) | (have H2_ := (Option.bind_some _ _).symm.trans H; with_reducible exact H2_) | with_reducible exact H | (rw [hy162]; exact H) | exact H
                      have Ny162 := Aside0.mk hy162
                      clear hy162
                      have H' := Aside0.mk H
                      clear H
                      have p12 : 0 ≤ (x7_1 : Int) := of_decide_eq_true (by first | (with_reducible assumption) | assumption)
                      have q12 : x7_1 < (a0.size : Int) := of_decide_eq_true (by first | (with_reducible assumption) | assumption)
                      have hx12 := bt_at a0 x7_1
                      replace p12 := eq_true p12
                      replace q12 := eq_true q12
                      go_wp2_with (first | ((with_reducible refine gate_builtin (b := .append) (xs := #[.tmp 25, .tmp 30]) rfl ?_); at_builtin; refine Kd.R_append Kd.string (w0 := w) w.heap.size rfl (.tmp 25) (.tmp 30) 48 9 (.string ⟨#[]⟩) 16 rfl Tryz.underlying48 info9 rfl (by decide) (by omega) u5 x5_1 (a0.extract (x6_1 : Int).toNat (x7_1 : Int).toNat) [.string (a0.extract (x6_1 : Int).toNat (x7_1 : Int).toNat)] (fun _ => True) (fun _ => False) rfl rfl ?aP (fun _ hk => hk.elim) ?aF ?aO ?aB ?aS ?aL ?_; (case aP => exact rfl); (case aB => exact (by repeat (first | (with_reducible first | exact HB.out | apply below_alloc | apply pw_below_drewN | apply below_drew1) | exact HB.out))); (case aF => exact (fun _ _ => trivial)); (case aO => exact (by (with_reducible repeat (first | apply Kd.R_alloc | apply Kd.R_drewN | apply Kd.R_drew)); exact HO_5.out)); (case aS => exact (below_size (by repeat (first | (with_reducible first | exact HB.out | apply below_alloc | apply pw_below_drewN | apply below_drew1) | exact HB.out)))); (case aL => have := LMc17.out; omega); intro v163 w18 ho hb hg hat; rw [← Ny162.out] at ho; have n0_ := Aside0.mk (hb); have n1_ := Aside0.mk (ho); clear HB; clear HO_5; have HB := n0_; have HO164 := n1_; clear n0_ n1_; clear ho hb hg hat))
                      go_roundg k1
                      case measure => have := HK1.out; omega
                      case rel => exact ⟨(y162), (wrap64 (x7_1 + 1)), (wrap64 (x7_1 + 1)), (by first | rfl | (simp; done) | (simp [*]; done)), (by first | rfl | (simp; done) | (simp [*]; done)), H', ⟨by have := HK1.out; omega⟩, ⟨by (with_reducible repeat (first | apply Kd.R_alloc | apply Kd.R_drewN | apply Kd.R_drew)); exact HO164.out⟩, ⟨by repeat (first | (with_reducible first | exact HB.out | apply below_alloc | apply pw_below_drewN | apply below_drew1) | exact HB.out)⟩⟩
                    · rw [if_neg c17] at H
                      exact absurd H (by simp)
                  · rw [if_neg c15] at H
                    exact absurd H (by simp)
                · rw [if_neg c14] at H
                  exact absurd H (by simp)
              · rw [if_neg c13] at H
                have c13b0 : ((bt a0 x7_1) == a1) = false := beq_eq_false_iff_ne.mpr c13
                have c13b1 : ((bt a0 x7_1) != a1) = true := bne_iff_ne.mpr c13
                have H' := Aside0.mk H
                clear H
                have p12 : 0 ≤ (x7_1 : Int) := of_decide_eq_true (by first | (with_reducible assumption) | assumption)
                have q12 : x7_1 < (a0.size : Int) := of_decide_eq_true (by first | (with_reducible assumption) | assumption)
                have hx12 := bt_at a0 x7_1
                replace p12 := eq_true p12
                replace q12 := eq_true q12
                go_wp2
                go_roundg k1
                case measure => have := HK1.out; omega
                case rel => exact ⟨(x5_1), (x6_1), (wrap64 (x7_1 + 1)), (by first | rfl | (simp; done) | (simp [*]; done)), (by first | rfl | (simp; done) | (simp [*]; done)), H', ⟨by have := HK1.out; omega⟩, ⟨by (with_reducible repeat (first | apply Kd.R_alloc | apply Kd.R_drewN | apply Kd.R_drew)); exact HO_5.out⟩, ⟨by repeat (first | (with_reducible first | exact HB.out | apply below_alloc | apply pw_below_drewN | apply below_drew1) | exact HB.out)⟩⟩
            · rw [if_neg c11] at H
              exact absurd H (by simp)
          · rw [if_neg c10] at H
            exact absurd H (by simp)
      · rw [if_neg c3] at H
        have c3b0 : decide (x7_1 ≤ (a0.size : Int)) = false := decide_eq_false c3
        clear c3
        obtain rfl := Option.some.inj H
        go_wp2
        go_ret
        exact ⟨_, by first | rfl | (simp [errW_none, errW_some] <;> rfl) | (simp [*, errW_none, errW_some] <;> rfl), by (with_reducible repeat (first | apply Kd.R_alloc | apply Kd.R_drewN | apply Kd.R_drew)); exact HO_5.out, by repeat (first | (with_reducible first | exact HB.out | apply below_alloc | apply pw_below_drewN | apply below_drew1) | exact HB.out)⟩
mutual
def spec_verIdents.l0 : Nat → List ByteArray → List ByteArray → Int → Int → Option (List ByteArray × Bool)
  | 0, _, _, _, _ => none
  | k + 1, x4, x11, x12, x13 => if x13 < x12 then (if 0 ≤ x13 then (if x13 < (x11.length : Int) then (spec_verIdents.l1 k x4 (rdOf ByteArray.empty x11 x13) 0 x11 x12 x13) else (none)) else (none)) else (some (x4, true))
def spec_verIdents.l1 : Nat → List ByteArray → ByteArray → Int → List ByteArray → Int → Int → Option (List ByteArray × Bool)
  | 0, _, _, _, _, _, _ => none
  | k + 1, x4, x6, x7, x11, x12, x13 => if x7 < (x6.size : Int) then (if 0 ≤ x7 then (if (Go.bits .or .u8 (bt x6 x7) 32) < 97 then (if (bt x6 x7) < 48 then (if (bt x6 x7) = 45 then (spec_verIdents.l1 k x4 x6 (wrap64 (x7 + 1)) x11 x12 x13) else (some (([] : List ByteArray), false))) else (if (bt x6 x7) > 57 then (if (bt x6 x7) = 45 then (spec_verIdents.l1 k x4 x6 (wrap64 (x7 + 1)) x11 x12 x13) else (some (([] : List ByteArray), false))) else (spec_verIdents.l1 k x4 x6 (wrap64 (x7 + 1)) x11 x12 x13))) else (if (Go.bits .or .u8 (bt x6 x7) 32) > 122 then (if (bt x6 x7) < 48 then (if (bt x6 x7) = 45 then (spec_verIdents.l1 k x4 x6 (wrap64 (x7 + 1)) x11 x12 x13) else (some (([] : List ByteArray), false))) else (if (bt x6 x7) > 57 then (if (bt x6 x7) = 45 then (spec_verIdents.l1 k x4 x6 (wrap64 (x7 + 1)) x11 x12 x13) else (some (([] : List ByteArray), false))) else (spec_verIdents.l1 k x4 x6 (wrap64 (x7 + 1)) x11 x12 x13))) else (spec_verIdents.l1 k x4 x6 (wrap64 (x7 + 1)) x11 x12 x13))) else (none)) else (if x6.toList = ([] : List UInt8) then (some (([] : List ByteArray), false)) else (spec_verIdents.l0 k x4 x11 x12 (wrap64 (x13 + 1))))
end
def spec_verIdents.f (k : Nat) (a0 : ByteArray) : Option (List ByteArray × Bool) := (spec_verSplit.f k a0 46).bind fun t165 => (spec_verIdents.l0 k t165 t165 (t165.length : Int) 0)
theorem spec_verIdents.mono_l : ∀ k, (∀ y0 y1 y2 y3, LeO (spec_verIdents.l0 k y0 y1 y2 y3) (spec_verIdents.l0 (k + 1) y0 y1 y2 y3)) ∧ (∀ y0 y1 y2 y3 y4 y5, LeO (spec_verIdents.l1 k y0 y1 y2 y3 y4 y5) (spec_verIdents.l1 (k + 1) y0 y1 y2 y3 y4 y5))
  | 0 => ⟨fun _ _ _ _ r h => by simp [spec_verIdents.l0] at h, fun _ _ _ _ _ _ r h => by simp [spec_verIdents.l1] at h⟩
  | k + 1 => by
    obtain ⟨ih0, ih1⟩ := spec_verIdents.mono_l k
    refine ⟨?_, ?_⟩
    · intro y0 y1 y2 y3
      unfold spec_verIdents.l0
      repeat' first
      | (with_reducible exact ih0 _ _ _ _)
      | (with_reducible exact ih1 _ _ _ _ _ _)
      | (with_reducible exact spec_verSplit.mono _ _ _)
      | (with_reducible exact LeO.refl _)
      | (with_reducible exact LeO.none _)
      | (with_reducible refine LeO.ite ?_ ?_)
      | (with_reducible refine LeO.bind ?_ (fun _ => ?_))
      | exact ih0 _ _ _ _
      | exact ih1 _ _ _ _ _ _
      | exact spec_verSplit.mono _ _ _
      | exact LeO.none _
      | refine LeO.ite ?_ ?_
      | refine LeO.bind ?_ (fun _ => ?_)
    · intro y0 y1 y2 y3 y4 y5
      unfold spec_verIdents.l1
      repeat' first
      | (with_reducible exact ih0 _ _ _ _)
      | (with_reducible exact ih1 _ _ _ _ _ _)
      | (with_reducible exact spec_verSplit.mono _ _ _)
      | (with_reducible exact LeO.refl _)
      | (with_reducible exact LeO.none _)
      | (with_reducible refine LeO.ite ?_ ?_)
      | (with_reducible refine LeO.bind ?_ (fun _ => ?_))
      | exact ih0 _ _ _ _
      | exact ih1 _ _ _ _ _ _
      | exact spec_verSplit.mono _ _ _
      | exact LeO.none _
      | refine LeO.ite ?_ ?_
      | refine LeO.bind ?_ (fun _ => ?_)
theorem spec_verIdents.mono : ∀ a0 k, LeO (spec_verIdents.f k a0) (spec_verIdents.f (k + 1) a0) := by
  intro a0 k
  obtain ⟨ih0, ih1⟩ := spec_verIdents.mono_l k
  unfold spec_verIdents.f
  repeat' first
      | (with_reducible exact ih0 _ _ _ _)
      | (with_reducible exact ih1 _ _ _ _ _ _)
      | (with_reducible exact spec_verSplit.mono _ _ _)
      | (with_reducible exact LeO.refl _)
      | (with_reducible exact LeO.none _)
      | (with_reducible refine LeO.ite ?_ ?_)
      | (with_reducible refine LeO.bind ?_ (fun _ => ?_))
      | exact ih0 _ _ _ _
      | exact ih1 _ _ _ _ _ _
      | exact spec_verSplit.mono _ _ _
      | exact LeO.none _
      | refine LeO.ite ?_ ?_
      | refine LeO.bind ?_ (fun _ => ?_)
set_option maxHeartbeats 8000000 in
set_option maxRecDepth 100000 in
theorem spec_verIdents.calls (k : Nat) (a0 : ByteArray) (r1 : List ByteArray) (r2 : Bool) (w : World) (h : spec_verIdents.f k a0 = some (r1, r2)) :
    Calls Tryz.prog 72 #[.string a0] w fun e w' => ∃ v0_ : Value, e = .returned (.tuple #[v0_, .bool r2]) ∧ Kd.R Kd.string 9 w' w.heap.size (fun _ => True) v0_ r1 ∧ Below w.heap.size w w' := by
  have HB := Aside0.mk (Below.refl w.heap.size w)
  have H : ((spec_verSplit.f k a0 46).bind fun t165 => (spec_verIdents.l0 k t165 t165 (t165.length : Int) 0)) = some (r1, r2) := h
  clear h
  replace H := Option.bind_eq_some_iff.mp H
  obtain ⟨t165, A20, H⟩ := H
  replace H : (spec_verIdents.l0 k t165 t165 (t165.length : Int) 0) = some (r1, r2) := H
  have A2 := Aside0.mk A20
  clear A20
  have H' := Aside0.mk H
  clear H
  go_enter Tryz.func72, Tryz.ntmps72
  go_wp2_with (first | ((with_reducible refine gate_callee (f := 73) rfl ?_); refine goesL_ (some 10) rfl rfl Tryz.func73 (by kernel_rfl) rfl #[.string a0, .int .u8 46] rfl (by (try simp only [List.map_toArray, List.map_cons, List.map_nil]); first | done | rfl | (simp only [List.length_drop, List.length_take]; rfl)) ?_; (with_reducible refine (spec_verSplit.calls k a0 46 t165 _ A2.out).mono ?_); rintro e w3 ⟨v166, rfl, ho0, hb⟩; refine ⟨_, rfl, ?_⟩; have n0_ := Aside0.mk (Kd.R_lower ho0 (below_size (by repeat (first | (with_reducible first | exact HB.out | apply below_alloc | apply pw_below_drewN | apply below_drew1) | exact HB.out)))); have n1_ := Aside0.mk (below_step (by repeat (first | (with_reducible first | exact HB.out | apply below_alloc | apply pw_below_drewN | apply below_drew1) | exact HB.out)) hb); clear HB; have HO167 := n0_; have HB := n1_; clear n0_ n1_; (try clear hb); (try clear hb2); (try clear hk); (try clear hi); (try clear ho0); obtain ⟨Ao4, co4, eo4⟩ := Kd.R_slice HO167.out; subst eo4))
  go_loopg [13] k (fun kq v13 w' => ∃ (x13_1 : Int), v13 = .int .i64 x13_1 ∧ Aside0 (spec_verIdents.l0 kq t165 t165 (t165.length : Int) x13_1 = some (r1, r2)) ∧ Aside0 (kq ≤ k) ∧ Aside0 (Kd.R Kd.string 9 w' w.heap.size (fun _ => True) (.slice Ao4 t165.length co4) t165) ∧ Aside0 (Kd.R Kd.string 9 w' w.heap.size (fun _ => True) (.slice Ao4 t165.length co4) t165) ∧ Aside0 (Below w.heap.size w w'))
  case atStart => exact ⟨(0), (by first | rfl | (simp; done) | (simp [*]; done)), H', ⟨Nat.le_refl _⟩, ⟨by (with_reducible repeat (first | apply Kd.R_alloc | apply Kd.R_drewN | apply Kd.R_drew)); exact HO167.out⟩, ⟨by (with_reducible repeat (first | apply Kd.R_alloc | apply Kd.R_drewN | apply Kd.R_drew)); exact HO167.out⟩, ⟨by repeat (first | (with_reducible first | exact HB.out | apply below_alloc | apply pw_below_drewN | apply below_drew1) | exact HB.out)⟩⟩
  case round =>
    clear H'
    try clear p2
    obtain ⟨x13_1, rfl, HA, HK1, HO_4, HO_11, HB⟩ := hrel
    cases gk with
    | zero => exact absurd HA.out (by simp [spec_verIdents.l0])
    | succ k1 =>
      have H := HA.out
      clear HA
      simp only [spec_verIdents.l0] at H
      by_cases c5 : x13_1 < (t165.length : Int)
      · rw [if_pos c5] at H
        have c5b0 : decide (x13_1 < (t165.length : Int)) = true := decide_eq_true c5
        clear c5
        by_cases c6 : 0 ≤ x13_1
        · rw [if_pos c6] at H
          have c6b0 : decide (0 ≤ x13_1) = true := decide_eq_true c6
          clear c6
          by_cases c7 : x13_1 < (t165.length : Int)
          · rw [if_pos c7] at H
            have c7b0 : decide (x13_1 < (t165.length : Int)) = true := decide_eq_true c7
            clear c7
            have H' := Aside0.mk H
            clear H
            have p168 : 0 ≤ (x13_1 : Int) := of_decide_eq_true (by first | (with_reducible assumption) | assumption)
            have q168 : x13_1 < (t165.length : Int) := of_decide_eq_true (by first | (with_reducible assumption) | assumption)
            obtain ⟨ad168, e168, hx168_0⟩ := Kd.at_string (Kd.R_reads' HO_11.out).2.2 x13_1 p168 q168
            cases e168
            replace p168 := eq_true p168
            replace q168 := eq_true q168
            go_wp2
            go_loopg [7] k1 (fun kq v7 w' => ∃ (x7_2 : Int), v7 = .int .i64 x7_2 ∧ Aside0 (spec_verIdents.l1 kq t165 (rdOf ByteArray.empty t165 x13_1) x7_2 t165 (t165.length : Int) x13_1 = some (r1, r2)) ∧ Aside0 (kq ≤ k1) ∧ Aside0 (Kd.R Kd.string 9 w' w.heap.size (fun _ => True) (.slice (some ad168) t165.length co4) t165) ∧ Aside0 (Kd.R Kd.string 9 w' w.heap.size (fun _ => True) (.slice (some ad168) t165.length co4) t165) ∧ Aside0 (Below w.heap.size w w'))
            case atStart => exact ⟨(0), (by first | rfl | (simp; done) | (simp [*]; done)), H', ⟨Nat.le_refl _⟩, ⟨by (with_reducible repeat (first | apply Kd.R_alloc | apply Kd.R_drewN | apply Kd.R_drew)); exact HO_4.out⟩, ⟨by (with_reducible repeat (first | apply Kd.R_alloc | apply Kd.R_drewN | apply Kd.R_drew)); exact HO_11.out⟩, ⟨by repeat (first | (with_reducible first | exact HB.out | apply below_alloc | apply pw_below_drewN | apply below_drew1) | exact HB.out)⟩⟩
            case round =>
              clear H'
              try clear p1
              try clear q1
              try clear hx1
              try clear p2
              try clear c5
              try clear c5b0
              try clear c6
              try clear c6b0
              try clear c7
              try clear c7b0
              try clear hx168_0
              try clear p168
              try clear p2
              try clear q168
              obtain ⟨x7_2, rfl, HA, HK2, HO_4, HO_11, HB⟩ := hrel
              cases gk with
              | zero => exact absurd HA.out (by simp [spec_verIdents.l1])
              | succ k2 =>
                have H := HA.out
                clear HA
                simp only [spec_verIdents.l1] at H
                by_cases c8 : x7_2 < ((rdOf ByteArray.empty t165 x13_1).size : Int)
                · rw [if_pos c8] at H
                  have c8b0 : decide (x7_2 < ((rdOf ByteArray.empty t165 x13_1).size : Int)) = true := decide_eq_true c8
                  clear c8
                  by_cases c9 : 0 ≤ x7_2
                  · rw [if_pos c9] at H
                    have c9b0 : decide (0 ≤ x7_2) = true := decide_eq_true c9
                    clear c9
                    by_cases c11 : (Go.bits .or .u8 (bt (rdOf ByteArray.empty t165 x13_1) x7_2) 32) < 97
                    · rw [if_pos c11] at H
                      have c11b0 : decide ((Go.bits .or .u8 (bt (rdOf ByteArray.empty t165 x13_1) x7_2) 32) < 97) = true := decide_eq_true c11
                      clear c11
                      by_cases c13 : (bt (rdOf ByteArray.empty t165 x13_1) x7_2) < 48
                      · rw [if_pos c13] at H
                        have c13b0 : decide ((bt (rdOf ByteArray.empty t165 x13_1) x7_2) < 48) = true := decide_eq_true c13
                        clear c13
                        by_cases c15 : (bt (rdOf ByteArray.empty t165 x13_1) x7_2) = 45
                        · rw [if_pos c15] at H
                          have c15b0 : ((bt (rdOf ByteArray.empty t165 x13_1) x7_2) == 45) = true := beq_iff_eq.mpr c15
                          have c15b1 : ((bt (rdOf ByteArray.empty t165 x13_1) x7_2) != 45) = false := bne_eq_false_iff_eq.mpr c15
                          clear c15
                          have H' := Aside0.mk H
                          clear H
                          have p10 : 0 ≤ (x7_2 : Int) := of_decide_eq_true (by first | (with_reducible assumption) | assumption)
                          have q10 : x7_2 < ((rdOf ByteArray.empty t165 x13_1).size : Int) := of_decide_eq_true (by first | (with_reducible assumption) | assumption)
                          have hx10 := bt_at (rdOf ByteArray.empty t165 x13_1) x7_2
                          replace p10 := eq_true p10
                          replace q10 := eq_true q10
                          have p12 : 0 ≤ (x7_2 : Int) := of_decide_eq_true (by first | (with_reducible assumption) | assumption)
                          have q12 : x7_2 < ((rdOf ByteArray.empty t165 x13_1).size : Int) := of_decide_eq_true (by first | (with_reducible assumption) | assumption)
                          have hx12 := bt_at (rdOf ByteArray.empty t165 x13_1) x7_2
                          replace p12 := eq_true p12
                          replace q12 := eq_true q12
                          have p14 : 0 ≤ (x7_2 : Int) := of_decide_eq_true (by first | (with_reducible assumption) | assumption)
                          have q14 : x7_2 < ((rdOf ByteArray.empty t165 x13_1).size : Int) := of_decide_eq_true (by first | (with_reducible assumption) | assumption)
                          have hx14 := bt_at (rdOf ByteArray.empty t165 x13_1) x7_2
                          replace p14 := eq_true p14
                          replace q14 := eq_true q14
                          go_wp2
                          go_roundg k2
                          case measure => have := HK1.out; have := HK2.out; omega
                          case rel => exact ⟨(wrap64 (x7_2 + 1)), (by first | rfl | (simp; done) | (simp [*]; done)), H', ⟨by have := HK1.out; have := HK2.out; omega⟩, ⟨by (with_reducible repeat (first | apply Kd.R_alloc | apply Kd.R_drewN | apply Kd.R_drew)); exact HO_4.out⟩, ⟨by (with_reducible repeat (first | apply Kd.R_alloc | apply Kd.R_drewN | apply Kd.R_drew)); exact HO_11.out⟩, ⟨by repeat (first | (with_reducible first | exact HB.out | apply below_alloc | apply pw_below_drewN | apply below_drew1) | exact HB.out)⟩⟩
                        · rw [if_neg c15] at H
                          have c15b0 : ((bt (rdOf ByteArray.empty t165 x13_1) x7_2) == 45) = false := beq_eq_false_iff_ne.mpr c15
                          have c15b1 : ((bt (rdOf ByteArray.empty t165 x13_1) x7_2) != 45) = true := bne_iff_ne.mpr c15
                          simp only [Option.some.injEq, Prod.mk.injEq] at H
                          obtain ⟨rfl, rfl⟩ := H
                          have p10 : 0 ≤ (x7_2 : Int) := of_decide_eq_true (by first | (with_reducible assumption) | assumption)
                          have q10 : x7_2 < ((rdOf ByteArray.empty t165 x13_1).size : Int) := of_decide_eq_true (by first | (with_reducible assumption) | assumption)
                          have hx10 := bt_at (rdOf ByteArray.empty t165 x13_1) x7_2
                          replace p10 := eq_true p10
                          replace q10 := eq_true q10
                          have p12 : 0 ≤ (x7_2 : Int) := of_decide_eq_true (by first | (with_reducible assumption) | assumption)
                          have q12 : x7_2 < ((rdOf ByteArray.empty t165 x13_1).size : Int) := of_decide_eq_true (by first | (with_reducible assumption) | assumption)
                          have hx12 := bt_at (rdOf ByteArray.empty t165 x13_1) x7_2
                          replace p12 := eq_true p12
                          replace q12 := eq_true q12
                          have p14 : 0 ≤ (x7_2 : Int) := of_decide_eq_true (by first | (with_reducible assumption) | assumption)
                          have q14 : x7_2 < ((rdOf ByteArray.empty t165 x13_1).size : Int) := of_decide_eq_true (by first | (with_reducible assumption) | assumption)
                          have hx14 := bt_at (rdOf ByteArray.empty t165 x13_1) x7_2
                          replace p14 := eq_true p14
                          replace q14 := eq_true q14
                          go_wp2
                          go_ret2
                          exact ⟨_, by first | rfl | (simp [errW_none, errW_some] <;> rfl) | (simp [*, errW_none, errW_some] <;> rfl), by first | exact Kd.R_nil _ _ _ _ _ | exact Kd.N_nil _ _ _ _ _ | exact Kd.V_nil _ _ _ _ _ | exact Kd.Q_nil _ _ _ _ _ | exact Kd.S_nil _ _ _ _ _, by repeat (first | (with_reducible first | exact HB.out | apply below_alloc | apply pw_below_drewN | apply below_drew1) | exact HB.out)⟩
                      · rw [if_neg c13] at H
                        have c13b0 : decide ((bt (rdOf ByteArray.empty t165 x13_1) x7_2) < 48) = false := decide_eq_false c13
                        clear c13
                        by_cases c17 : (bt (rdOf ByteArray.empty t165 x13_1) x7_2) > 57
                        · rw [if_pos c17] at H
                          have c17b0 : decide (57 < (bt (rdOf ByteArray.empty t165 x13_1) x7_2)) = true := decide_eq_true c17
                          clear c17
                          by_cases c19 : (bt (rdOf ByteArray.empty t165 x13_1) x7_2) = 45
                          · rw [if_pos c19] at H
                            have c19b0 : ((bt (rdOf ByteArray.empty t165 x13_1) x7_2) == 45) = true := beq_iff_eq.mpr c19
                            have c19b1 : ((bt (rdOf ByteArray.empty t165 x13_1) x7_2) != 45) = false := bne_eq_false_iff_eq.mpr c19
                            clear c19
                            have H' := Aside0.mk H
                            clear H
                            have p10 : 0 ≤ (x7_2 : Int) := of_decide_eq_true (by first | (with_reducible assumption) | assumption)
                            have q10 : x7_2 < ((rdOf ByteArray.empty t165 x13_1).size : Int) := of_decide_eq_true (by first | (with_reducible assumption) | assumption)
                            have hx10 := bt_at (rdOf ByteArray.empty t165 x13_1) x7_2
                            replace p10 := eq_true p10
                            replace q10 := eq_true q10
                            have p12 : 0 ≤ (x7_2 : Int) := of_decide_eq_true (by first | (with_reducible assumption) | assumption)
                            have q12 : x7_2 < ((rdOf ByteArray.empty t165 x13_1).size : Int) := of_decide_eq_true (by first | (with_reducible assumption) | assumption)
                            have hx12 := bt_at (rdOf ByteArray.empty t165 x13_1) x7_2
                            replace p12 := eq_true p12
                            replace q12 := eq_true q12
                            have p16 : 0 ≤ (x7_2 : Int) := of_decide_eq_true (by first | (with_reducible assumption) | assumption)
                            have q16 : x7_2 < ((rdOf ByteArray.empty t165 x13_1).size : Int) := of_decide_eq_true (by first | (with_reducible assumption) | assumption)
                            have hx16 := bt_at (rdOf ByteArray.empty t165 x13_1) x7_2
                            replace p16 := eq_true p16
                            replace q16 := eq_true q16
                            have p18 : 0 ≤ (x7_2 : Int) := of_decide_eq_true (by first | (with_reducible assumption) | assumption)
                            have q18 : x7_2 < ((rdOf ByteArray.empty t165 x13_1).size : Int) := of_decide_eq_true (by first | (with_reducible assumption) | assumption)
                            have hx18 := bt_at (rdOf ByteArray.empty t165 x13_1) x7_2
                            replace p18 := eq_true p18
                            replace q18 := eq_true q18
                            go_wp2
                            go_roundg k2
                            case measure => have := HK1.out; have := HK2.out; omega
                            case rel => exact ⟨(wrap64 (x7_2 + 1)), (by first | rfl | (simp; done) | (simp [*]; done)), H', ⟨by have := HK1.out; have := HK2.out; omega⟩, ⟨by (with_reducible repeat (first | apply Kd.R_alloc | apply Kd.R_drewN | apply Kd.R_drew)); exact HO_4.out⟩, ⟨by (with_reducible repeat (first | apply Kd.R_alloc | apply Kd.R_drewN | apply Kd.R_drew)); exact HO_11.out⟩, ⟨by repeat (first | (with_reducible first | exact HB.out | apply below_alloc | apply pw_below_drewN | apply below_drew1) | exact HB.out)⟩⟩
                          · rw [if_neg c19] at H
                            have c19b0 : ((bt (rdOf ByteArray.empty t165 x13_1) x7_2) == 45) = false := beq_eq_false_iff_ne.mpr c19
                            have c19b1 : ((bt (rdOf ByteArray.empty t165 x13_1) x7_2) != 45) = true := bne_iff_ne.mpr c19
                            simp only [Option.some.injEq, Prod.mk.injEq] at H
                            obtain ⟨rfl, rfl⟩ := H
                            have p10 : 0 ≤ (x7_2 : Int) := of_decide_eq_true (by first | (with_reducible assumption) | assumption)
                            have q10 : x7_2 < ((rdOf ByteArray.empty t165 x13_1).size : Int) := of_decide_eq_true (by first | (with_reducible assumption) | assumption)
                            have hx10 := bt_at (rdOf ByteArray.empty t165 x13_1) x7_2
                            replace p10 := eq_true p10
                            replace q10 := eq_true q10
                            have p12 : 0 ≤ (x7_2 : Int) := of_decide_eq_true (by first | (with_reducible assumption) | assumption)
                            have q12 : x7_2 < ((rdOf ByteArray.empty t165 x13_1).size : Int) := of_decide_eq_true (by first | (with_reducible assumption) | assumption)
                            have hx12 := bt_at (rdOf ByteArray.empty t165 x13_1) x7_2
                            replace p12 := eq_true p12
                            replace q12 := eq_true q12
                            have p16 : 0 ≤ (x7_2 : Int) := of_decide_eq_true (by first | (with_reducible assumption) | assumption)
                            have q16 : x7_2 < ((rdOf ByteArray.empty t165 x13_1).size : Int) := of_decide_eq_true (by first | (with_reducible assumption) | assumption)
                            have hx16 := bt_at (rdOf ByteArray.empty t165 x13_1) x7_2
                            replace p16 := eq_true p16
                            replace q16 := eq_true q16
                            have p18 : 0 ≤ (x7_2 : Int) := of_decide_eq_true (by first | (with_reducible assumption) | assumption)
                            have q18 : x7_2 < ((rdOf ByteArray.empty t165 x13_1).size : Int) := of_decide_eq_true (by first | (with_reducible assumption) | assumption)
                            have hx18 := bt_at (rdOf ByteArray.empty t165 x13_1) x7_2
                            replace p18 := eq_true p18
                            replace q18 := eq_true q18
                            go_wp2
                            go_ret2
                            exact ⟨_, by first | rfl | (simp [errW_none, errW_some] <;> rfl) | (simp [*, errW_none, errW_some] <;> rfl), by first | exact Kd.R_nil _ _ _ _ _ | exact Kd.N_nil _ _ _ _ _ | exact Kd.V_nil _ _ _ _ _ | exact Kd.Q_nil _ _ _ _ _ | exact Kd.S_nil _ _ _ _ _, by repeat (first | (with_reducible first | exact HB.out | apply below_alloc | apply pw_below_drewN | apply below_drew1) | exact HB.out)⟩
                        · rw [if_neg c17] at H
                          have c17b0 : decide (57 < (bt (rdOf ByteArray.empty t165 x13_1) x7_2)) = false := decide_eq_false c17
                          clear c17
                          have H' := Aside0.mk H
                          clear H
                          have p10 : 0 ≤ (x7_2 : Int) := of_decide_eq_true (by first | (with_reducible assumption) | assumption)
                          have q10 : x7_2 < ((rdOf ByteArray.empty t165 x13_1).size : Int) := of_decide_eq_true (by first | (with_reducible assumption) | assumption)
                          have hx10 := bt_at (rdOf ByteArray.empty t165 x13_1) x7_2
                          replace p10 := eq_true p10
                          replace q10 := eq_true q10
                          have p12 : 0 ≤ (x7_2 : Int) := of_decide_eq_true (by first | (with_reducible assumption) | assumption)
                          have q12 : x7_2 < ((rdOf ByteArray.empty t165 x13_1).size : Int) := of_decide_eq_true (by first | (with_reducible assumption) | assumption)
                          have hx12 := bt_at (rdOf ByteArray.empty t165 x13_1) x7_2
                          replace p12 := eq_true p12
                          replace q12 := eq_true q12
                          have p16 : 0 ≤ (x7_2 : Int) := of_decide_eq_true (by first | (with_reducible assumption) | assumption)
                          have q16 : x7_2 < ((rdOf ByteArray.empty t165 x13_1).size : Int) := of_decide_eq_true (by first | (with_reducible assumption) | assumption)
                          have hx16 := bt_at (rdOf ByteArray.empty t165 x13_1) x7_2
                          replace p16 := eq_true p16
                          replace q16 := eq_true q16
                          go_wp2
                          go_roundg k2
                          case measure => have := HK1.out; have := HK2.out; omega
                          case rel => exact ⟨(wrap64 (x7_2 + 1)), (by first | rfl | (simp; done) | (simp [*]; done)), H', ⟨by have := HK1.out; have := HK2.out; omega⟩, ⟨by (with_reducible repeat (first | apply Kd.R_alloc | apply Kd.R_drewN | apply Kd.R_drew)); exact HO_4.out⟩, ⟨by (with_reducible repeat (first | apply Kd.R_alloc | apply Kd.R_drewN | apply Kd.R_drew)); exact HO_11.out⟩, ⟨by repeat (first | (with_reducible first | exact HB.out | apply below_alloc | apply pw_below_drewN | apply below_drew1) | exact HB.out)⟩⟩
                    · rw [if_neg c11] at H
                      have c11b0 : decide ((Go.bits .or .u8 (bt (rdOf ByteArray.empty t165 x13_1) x7_2) 32) < 97) = false := decide_eq_false c11
                      clear c11
                      by_cases c20 : (Go.bits .or .u8 (bt (rdOf ByteArray.empty t165 x13_1) x7_2) 32) > 122
                      · rw [if_pos c20] at H
                        have c20b0 : decide (122 < (Go.bits .or .u8 (bt (rdOf ByteArray.empty t165 x13_1) x7_2) 32)) = true := decide_eq_true c20
                        clear c20
                        by_cases c22 : (bt (rdOf ByteArray.empty t165 x13_1) x7_2) < 48
                        · rw [if_pos c22] at H
                          have c22b0 : decide ((bt (rdOf ByteArray.empty t165 x13_1) x7_2) < 48) = true := decide_eq_true c22
                          clear c22
                          by_cases c24 : (bt (rdOf ByteArray.empty t165 x13_1) x7_2) = 45
                          · rw [if_pos c24] at H
                            have c24b0 : ((bt (rdOf ByteArray.empty t165 x13_1) x7_2) == 45) = true := beq_iff_eq.mpr c24
                            have c24b1 : ((bt (rdOf ByteArray.empty t165 x13_1) x7_2) != 45) = false := bne_eq_false_iff_eq.mpr c24
                            clear c24
                            have H' := Aside0.mk H
                            clear H
                            have p10 : 0 ≤ (x7_2 : Int) := of_decide_eq_true (by first | (with_reducible assumption) | assumption)
                            have q10 : x7_2 < ((rdOf ByteArray.empty t165 x13_1).size : Int) := of_decide_eq_true (by first | (with_reducible assumption) | assumption)
                            have hx10 := bt_at (rdOf ByteArray.empty t165 x13_1) x7_2
                            replace p10 := eq_true p10
                            replace q10 := eq_true q10
                            have p21 : 0 ≤ (x7_2 : Int) := of_decide_eq_true (by first | (with_reducible assumption) | assumption)
                            have q21 : x7_2 < ((rdOf ByteArray.empty t165 x13_1).size : Int) := of_decide_eq_true (by first | (with_reducible assumption) | assumption)
                            have hx21 := bt_at (rdOf ByteArray.empty t165 x13_1) x7_2
                            replace p21 := eq_true p21
                            replace q21 := eq_true q21
                            have p23 : 0 ≤ (x7_2 : Int) := of_decide_eq_true (by first | (with_reducible assumption) | assumption)
                            have q23 : x7_2 < ((rdOf ByteArray.empty t165 x13_1).size : Int) := of_decide_eq_true (by first | (with_reducible assumption) | assumption)
                            have hx23 := bt_at (rdOf ByteArray.empty t165 x13_1) x7_2
                            replace p23 := eq_true p23
                            replace q23 := eq_true q23
                            go_wp2
                            go_roundg k2
                            case measure => have := HK1.out; have := HK2.out; omega
                            case rel => exact ⟨(wrap64 (x7_2 + 1)), (by first | rfl | (simp; done) | (simp [*]; done)), H', ⟨by have := HK1.out; have := HK2.out; omega⟩, ⟨by (with_reducible repeat (first | apply Kd.R_alloc | apply Kd.R_drewN | apply Kd.R_drew)); exact HO_4.out⟩, ⟨by (with_reducible repeat (first | apply Kd.R_alloc | apply Kd.R_drewN | apply Kd.R_drew)); exact HO_11.out⟩, ⟨by repeat (first | (with_reducible first | exact HB.out | apply below_alloc | apply pw_below_drewN | apply below_drew1) | exact HB.out)⟩⟩
                          · rw [if_neg c24] at H
                            have c24b0 : ((bt (rdOf ByteArray.empty t165 x13_1) x7_2) == 45) = false := beq_eq_false_iff_ne.mpr c24
                            have c24b1 : ((bt (rdOf ByteArray.empty t165 x13_1) x7_2) != 45) = true := bne_iff_ne.mpr c24
                            simp only [Option.some.injEq, Prod.mk.injEq] at H
                            obtain ⟨rfl, rfl⟩ := H
                            have p10 : 0 ≤ (x7_2 : Int) := of_decide_eq_true (by first | (with_reducible assumption) | assumption)
                            have q10 : x7_2 < ((rdOf ByteArray.empty t165 x13_1).size : Int) := of_decide_eq_true (by first | (with_reducible assumption) | assumption)
                            have hx10 := bt_at (rdOf ByteArray.empty t165 x13_1) x7_2
                            replace p10 := eq_true p10
                            replace q10 := eq_true q10
                            have p21 : 0 ≤ (x7_2 : Int) := of_decide_eq_true (by first | (with_reducible assumption) | assumption)
                            have q21 : x7_2 < ((rdOf ByteArray.empty t165 x13_1).size : Int) := of_decide_eq_true (by first | (with_reducible assumption) | assumption)
                            have hx21 := bt_at (rdOf ByteArray.empty t165 x13_1) x7_2
                            replace p21 := eq_true p21
                            replace q21 := eq_true q21
                            have p23 : 0 ≤ (x7_2 : Int) := of_decide_eq_true (by first | (with_reducible assumption) | assumption)
                            have q23 : x7_2 < ((rdOf ByteArray.empty t165 x13_1).size : Int) := of_decide_eq_true (by first | (with_reducible assumption) | assumption)
                            have hx23 := bt_at (rdOf ByteArray.empty t165 x13_1) x7_2
                            replace p23 := eq_true p23
                            replace q23 := eq_true q23
                            go_wp2
                            go_ret2
                            exact ⟨_, by first | rfl | (simp [errW_none, errW_some] <;> rfl) | (simp [*, errW_none, errW_some] <;> rfl), by first | exact Kd.R_nil _ _ _ _ _ | exact Kd.N_nil _ _ _ _ _ | exact Kd.V_nil _ _ _ _ _ | exact Kd.Q_nil _ _ _ _ _ | exact Kd.S_nil _ _ _ _ _, by repeat (first | (with_reducible first | exact HB.out | apply below_alloc | apply pw_below_drewN | apply below_drew1) | exact HB.out)⟩
                        · rw [if_neg c22] at H
                          have c22b0 : decide ((bt (rdOf ByteArray.empty t165 x13_1) x7_2) < 48) = false := decide_eq_false c22
                          clear c22
                          by_cases c26 : (bt (rdOf ByteArray.empty t165 x13_1) x7_2) > 57
                          · rw [if_pos c26] at H
                            have c26b0 : decide (57 < (bt (rdOf ByteArray.empty t165 x13_1) x7_2)) = true := decide_eq_true c26
                            clear c26
                            by_cases c28 : (bt (rdOf ByteArray.empty t165 x13_1) x7_2) = 45
                            · rw [if_pos c28] at H
                              have c28b0 : ((bt (rdOf ByteArray.empty t165 x13_1) x7_2) == 45) = true := beq_iff_eq.mpr c28
                              have c28b1 : ((bt (rdOf ByteArray.empty t165 x13_1) x7_2) != 45) = false := bne_eq_false_iff_eq.mpr c28
                              clear c28
                              have H' := Aside0.mk H
                              clear H
                              have p10 : 0 ≤ (x7_2 : Int) := of_decide_eq_true (by first | (with_reducible assumption) | assumption)
                              have q10 : x7_2 < ((rdOf ByteArray.empty t165 x13_1).size : Int) := of_decide_eq_true (by first | (with_reducible assumption) | assumption)
                              have hx10 := bt_at (rdOf ByteArray.empty t165 x13_1) x7_2
                              replace p10 := eq_true p10
                              replace q10 := eq_true q10
                              have p21 : 0 ≤ (x7_2 : Int) := of_decide_eq_true (by first | (with_reducible assumption) | assumption)
                              have q21 : x7_2 < ((rdOf ByteArray.empty t165 x13_1).size : Int) := of_decide_eq_true (by first | (with_reducible assumption) | assumption)
                              have hx21 := bt_at (rdOf ByteArray.empty t165 x13_1) x7_2
                              replace p21 := eq_true p21
                              replace q21 := eq_true q21
                              have p25 : 0 ≤ (x7_2 : Int) := of_decide_eq_true (by first | (with_reducible assumption) | assumption)
                              have q25 : x7_2 < ((rdOf ByteArray.empty t165 x13_1).size : Int) := of_decide_eq_true (by first | (with_reducible assumption) | assumption)
                              have hx25 := bt_at (rdOf ByteArray.empty t165 x13_1) x7_2
                              replace p25 := eq_true p25
                              replace q25 := eq_true q25
                              have p27 : 0 ≤ (x7_2 : Int) := of_decide_eq_true (by first | (with_reducible assumption) | assumption)
                              have q27 : x7_2 < ((rdOf ByteArray.empty t165 x13_1).size : Int) := of_decide_eq_true (by first | (with_reducible assumption) | assumption)
                              have hx27 := bt_at (rdOf ByteArray.empty t165 x13_1) x7_2
                              replace p27 := eq_true p27
                              replace q27 := eq_true q27
                              go_wp2
                              go_roundg k2
                              case measure => have := HK1.out; have := HK2.out; omega
                              case rel => exact ⟨(wrap64 (x7_2 + 1)), (by first | rfl | (simp; done) | (simp [*]; done)), H', ⟨by have := HK1.out; have := HK2.out; omega⟩, ⟨by (with_reducible repeat (first | apply Kd.R_alloc | apply Kd.R_drewN | apply Kd.R_drew)); exact HO_4.out⟩, ⟨by (with_reducible repeat (first | apply Kd.R_alloc | apply Kd.R_drewN | apply Kd.R_drew)); exact HO_11.out⟩, ⟨by repeat (first | (with_reducible first | exact HB.out | apply below_alloc | apply pw_below_drewN | apply below_drew1) | exact HB.out)⟩⟩
                            · rw [if_neg c28] at H
                              have c28b0 : ((bt (rdOf ByteArray.empty t165 x13_1) x7_2) == 45) = false := beq_eq_false_iff_ne.mpr c28
                              have c28b1 : ((bt (rdOf ByteArray.empty t165 x13_1) x7_2) != 45) = true := bne_iff_ne.mpr c28
                              simp only [Option.some.injEq, Prod.mk.injEq] at H
                              obtain ⟨rfl, rfl⟩ := H
                              have p10 : 0 ≤ (x7_2 : Int) := of_decide_eq_true (by first | (with_reducible assumption) | assumption)
                              have q10 : x7_2 < ((rdOf ByteArray.empty t165 x13_1).size : Int) := of_decide_eq_true (by first | (with_reducible assumption) | assumption)
                              have hx10 := bt_at (rdOf ByteArray.empty t165 x13_1) x7_2
                              replace p10 := eq_true p10
                              replace q10 := eq_true q10
                              have p21 : 0 ≤ (x7_2 : Int) := of_decide_eq_true (by first | (with_reducible assumption) | assumption)
                              have q21 : x7_2 < ((rdOf ByteArray.empty t165 x13_1).size : Int) := of_decide_eq_true (by first | (with_reducible assumption) | assumption)
                              have hx21 := bt_at (rdOf ByteArray.empty t165 x13_1) x7_2
                              replace p21 := eq_true p21
                              replace q21 := eq_true q21
                              have p25 : 0 ≤ (x7_2 : Int) := of_decide_eq_true (by first | (with_reducible assumption) | assumption)
                              have q25 : x7_2 < ((rdOf ByteArray.empty t165 x13_1).size : Int) := of_decide_eq_true (by first | (with_reducible assumption) | assumption)
                              have hx25 := bt_at (rdOf ByteArray.empty t165 x13_1) x7_2
                              replace p25 := eq_true p25
                              replace q25 := eq_true q25
                              have p27 : 0 ≤ (x7_2 : Int) := of_decide_eq_true (by first | (with_reducible assumption) | assumption)
                              have q27 : x7_2 < ((rdOf ByteArray.empty t165 x13_1).size : Int) := of_decide_eq_true (by first | (with_reducible assumption) | assumption)
                              have hx27 := bt_at (rdOf ByteArray.empty t165 x13_1) x7_2
                              replace p27 := eq_true p27
                              replace q27 := eq_true q27
                              go_wp2
                              go_ret2
                              exact ⟨_, by first | rfl | (simp [errW_none, errW_some] <;> rfl) | (simp [*, errW_none, errW_some] <;> rfl), by first | exact Kd.R_nil _ _ _ _ _ | exact Kd.N_nil _ _ _ _ _ | exact Kd.V_nil _ _ _ _ _ | exact Kd.Q_nil _ _ _ _ _ | exact Kd.S_nil _ _ _ _ _, by repeat (first | (with_reducible first | exact HB.out | apply below_alloc | apply pw_below_drewN | apply below_drew1) | exact HB.out)⟩
                          · rw [if_neg c26] at H
                            have c26b0 : decide (57 < (bt (rdOf ByteArray.empty t165 x13_1) x7_2)) = false := decide_eq_false c26
                            clear c26
                            have H' := Aside0.mk H
                            clear H
                            have p10 : 0 ≤ (x7_2 : Int) := of_decide_eq_true (by first | (with_reducible assumption) | assumption)
                            have q10 : x7_2 < ((rdOf ByteArray.empty t165 x13_1).size : Int) := of_decide_eq_true (by first | (with_reducible assumption) | assumption)
                            have hx10 := bt_at (rdOf ByteArray.empty t165 x13_1) x7_2
                            replace p10 := eq_true p10
                            replace q10 := eq_true q10
                            have p21 : 0 ≤ (x7_2 : Int) := of_decide_eq_true (by first | (with_reducible assumption) | assumption)
                            have q21 : x7_2 < ((rdOf ByteArray.empty t165 x13_1).size : Int) := of_decide_eq_true (by first | (with_reducible assumption) | assumption)
                            have hx21 := bt_at (rdOf ByteArray.empty t165 x13_1) x7_2
                            replace p21 := eq_true p21
                            replace q21 := eq_true q21
                            have p25 : 0 ≤ (x7_2 : Int) := of_decide_eq_true (by first | (with_reducible assumption) | assumption)
                            have q25 : x7_2 < ((rdOf ByteArray.empty t165 x13_1).size : Int) := of_decide_eq_true (by first | (with_reducible assumption) | assumption)
                            have hx25 := bt_at (rdOf ByteArray.empty t165 x13_1) x7_2
                            replace p25 := eq_true p25
                            replace q25 := eq_true q25
                            go_wp2
                            go_roundg k2
                            case measure => have := HK1.out; have := HK2.out; omega
                            case rel => exact ⟨(wrap64 (x7_2 + 1)), (by first | rfl | (simp; done) | (simp [*]; done)), H', ⟨by have := HK1.out; have := HK2.out; omega⟩, ⟨by (with_reducible repeat (first | apply Kd.R_alloc | apply Kd.R_drewN | apply Kd.R_drew)); exact HO_4.out⟩, ⟨by (with_reducible repeat (first | apply Kd.R_alloc | apply Kd.R_drewN | apply Kd.R_drew)); exact HO_11.out⟩, ⟨by repeat (first | (with_reducible first | exact HB.out | apply below_alloc | apply pw_below_drewN | apply below_drew1) | exact HB.out)⟩⟩
                      · rw [if_neg c20] at H
                        have c20b0 : decide (122 < (Go.bits .or .u8 (bt (rdOf ByteArray.empty t165 x13_1) x7_2) 32)) = false := decide_eq_false c20
                        clear c20
                        have H' := Aside0.mk H
                        clear H
                        have p10 : 0 ≤ (x7_2 : Int) := of_decide_eq_true (by first | (with_reducible assumption) | assumption)
                        have q10 : x7_2 < ((rdOf ByteArray.empty t165 x13_1).size : Int) := of_decide_eq_true (by first | (with_reducible assumption) | assumption)
                        have hx10 := bt_at (rdOf ByteArray.empty t165 x13_1) x7_2
                        replace p10 := eq_true p10
                        replace q10 := eq_true q10
                        go_wp2
                        go_roundg k2
                        case measure => have := HK1.out; have := HK2.out; omega
                        case rel => exact ⟨(wrap64 (x7_2 + 1)), (by first | rfl | (simp; done) | (simp [*]; done)), H', ⟨by have := HK1.out; have := HK2.out; omega⟩, ⟨by (with_reducible repeat (first | apply Kd.R_alloc | apply Kd.R_drewN | apply Kd.R_drew)); exact HO_4.out⟩, ⟨by (with_reducible repeat (first | apply Kd.R_alloc | apply Kd.R_drewN | apply Kd.R_drew)); exact HO_11.out⟩, ⟨by repeat (first | (with_reducible first | exact HB.out | apply below_alloc | apply pw_below_drewN | apply below_drew1) | exact HB.out)⟩⟩
                  · rw [if_neg c9] at H
                    exact absurd H (by simp)
                · rw [if_neg c8] at H
                  have c8b0 : decide (x7_2 < ((rdOf ByteArray.empty t165 x13_1).size : Int)) = false := decide_eq_false c8
                  clear c8
                  by_cases c29 : (rdOf ByteArray.empty t165 x13_1).toList = ([] : List UInt8)
                  · rw [if_pos c29] at H
                    have c29b0 : ((rdOf ByteArray.empty t165 x13_1).toList == ([] : List UInt8)) = true := beq_iff_eq.mpr c29
                    have c29b1 : ((rdOf ByteArray.empty t165 x13_1).toList != ([] : List UInt8)) = false := bne_eq_false_iff_eq.mpr c29
                    clear c29
                    simp only [Option.some.injEq, Prod.mk.injEq] at H
                    obtain ⟨rfl, rfl⟩ := H
                    go_wp2
                    go_ret2
                    exact ⟨_, by first | rfl | (simp [errW_none, errW_some] <;> rfl) | (simp [*, errW_none, errW_some] <;> rfl), by first | exact Kd.R_nil _ _ _ _ _ | exact Kd.N_nil _ _ _ _ _ | exact Kd.V_nil _ _ _ _ _ | exact Kd.Q_nil _ _ _ _ _ | exact Kd.S_nil _ _ _ _ _, by repeat (first | (with_reducible first | exact HB.out | apply below_alloc | apply pw_below_drewN | apply below_drew1) | exact HB.out)⟩
                  · rw [if_neg c29] at H
                    have c29b0 : ((rdOf ByteArray.empty t165 x13_1).toList == ([] : List UInt8)) = false := beq_eq_false_iff_ne.mpr c29
                    have c29b1 : ((rdOf ByteArray.empty t165 x13_1).toList != ([] : List UInt8)) = true := bne_iff_ne.mpr c29
                    have H' := Aside0.mk H
                    clear H
                    go_wp2
                    go_roundg k2
                    case measure => have := HK1.out; have := HK2.out; omega
                    case rel => exact ⟨(wrap64 (x13_1 + 1)), (by first | rfl | (simp; done) | (simp [*]; done)), H', ⟨by have := HK1.out; have := HK2.out; omega⟩, ⟨by (with_reducible repeat (first | apply Kd.R_alloc | apply Kd.R_drewN | apply Kd.R_drew)); exact HO_4.out⟩, ⟨by (with_reducible repeat (first | apply Kd.R_alloc | apply Kd.R_drewN | apply Kd.R_drew)); exact HO_11.out⟩, ⟨by repeat (first | (with_reducible first | exact HB.out | apply below_alloc | apply pw_below_drewN | apply below_drew1) | exact HB.out)⟩⟩
          · rw [if_neg c7] at H
            exact absurd H (by simp)
        · rw [if_neg c6] at H
          exact absurd H (by simp)
      · rw [if_neg c5] at H
        have c5b0 : decide (x13_1 < (t165.length : Int)) = false := decide_eq_false c5
        clear c5
        simp only [Option.some.injEq, Prod.mk.injEq] at H
        obtain ⟨rfl, rfl⟩ := H
        go_wp2
        go_ret2
        exact ⟨_, by first | rfl | (simp [errW_none, errW_some] <;> rfl) | (simp [*, errW_none, errW_some] <;> rfl), by (with_reducible repeat (first | apply Kd.R_alloc | apply Kd.R_drewN | apply Kd.R_drew)); exact HO_4.out, by repeat (first | (with_reducible first | exact HB.out | apply below_alloc | apply pw_below_drewN | apply below_drew1) | exact HB.out)⟩
def spec_verDigits.l0 : Nat → ByteArray → Int → Option (Bool)
  | 0, _, _ => none
  | k + 1, x0, x3 => if x3 < (x0.size : Int) then (if 0 ≤ x3 then (if (bt x0 x3) < 48 then (some false) else (if (bt x0 x3) > 57 then (some false) else (spec_verDigits.l0 k x0 (wrap64 (x3 + 1))))) else (none)) else (some (x0.toList != ([] : List UInt8)))
def spec_verDigits.f (k : Nat) (a0 : ByteArray) : Option (Bool) := spec_verDigits.l0 k a0 0
theorem spec_verDigits.mono_l : ∀ k, (∀ y0 y1, LeO (spec_verDigits.l0 k y0 y1) (spec_verDigits.l0 (k + 1) y0 y1))
  | 0 => fun _ _ r h => by simp [spec_verDigits.l0] at h
  | k + 1 => by
    have ih0 := spec_verDigits.mono_l k
    · intro y0 y1
      unfold spec_verDigits.l0
      repeat' first
      | (with_reducible exact ih0 _ _)
      | (with_reducible exact LeO.refl _)
      | (with_reducible exact LeO.none _)
      | (with_reducible refine LeO.ite ?_ ?_)
      | (with_reducible refine LeO.bind ?_ (fun _ => ?_))
      | exact ih0 _ _
      | exact LeO.none _
      | refine LeO.ite ?_ ?_
      | refine LeO.bind ?_ (fun _ => ?_)
theorem spec_verDigits.mono : ∀ a0 k, LeO (spec_verDigits.f k a0) (spec_verDigits.f (k + 1) a0) := by
  intro a0 k
  have ih0 := spec_verDigits.mono_l k
  unfold spec_verDigits.f
  repeat' first
      | (with_reducible exact ih0 _ _)
      | (with_reducible exact LeO.refl _)
      | (with_reducible exact LeO.none _)
      | (with_reducible refine LeO.ite ?_ ?_)
      | (with_reducible refine LeO.bind ?_ (fun _ => ?_))
      | exact ih0 _ _
      | exact LeO.none _
      | refine LeO.ite ?_ ?_
      | refine LeO.bind ?_ (fun _ => ?_)
set_option maxHeartbeats 8000000 in
set_option maxRecDepth 100000 in
theorem spec_verDigits.calls (k : Nat) (a0 : ByteArray) (r : Bool) (w : World) (h : spec_verDigits.f k a0 = some r) :
    Calls Tryz.prog 100 #[.string a0] w fun e w' => e = .returned (.bool r) ∧ Drawn0 w w' := by
  have H : (spec_verDigits.l0 k a0 0) = some r := h
  clear h
  have H' := Aside0.mk H
  clear H
  go_enter Tryz.func100, Tryz.ntmps100
  go_wp2
  go_loopg [3] k (fun kq v3 w' => ∃ (x3_1 : Int), v3 = .int .i64 x3_1 ∧ Aside0 (spec_verDigits.l0 kq a0 x3_1 = some r) ∧ Aside0 (kq ≤ k) ∧ Drawn0 w w')
  case atStart => exact ⟨(0), (by first | rfl | (simp; done) | (simp [*]; done)), H', ⟨Nat.le_refl _⟩, by repeat (first | exact Drawn0.refl _ | apply Drawn0.step)⟩
  case round =>
    clear H'
    try clear c1
    obtain ⟨x3_1, rfl, HA, HK1, ⟨m1, rfl⟩⟩ := hrel
    cases gk with
    | zero => exact absurd HA.out (by simp [spec_verDigits.l0])
    | succ k1 =>
      have H := HA.out
      clear HA
      simp only [spec_verDigits.l0] at H
      by_cases c2 : x3_1 < (a0.size : Int)
      · rw [if_pos c2] at H
        have c2b0 : decide (x3_1 < (a0.size : Int)) = true := decide_eq_true c2
        clear c2
        by_cases c3 : 0 ≤ x3_1
        · rw [if_pos c3] at H
          have c3b0 : decide (0 ≤ x3_1) = true := decide_eq_true c3
          clear c3
          by_cases c5 : (bt a0 x3_1) < 48
          · rw [if_pos c5] at H
            have c5b0 : decide ((bt a0 x3_1) < 48) = true := decide_eq_true c5
            clear c5
            obtain rfl := Option.some.inj H
            have p4 : 0 ≤ (x3_1 : Int) := of_decide_eq_true (by first | (with_reducible assumption) | assumption)
            have q4 : x3_1 < (a0.size : Int) := of_decide_eq_true (by first | (with_reducible assumption) | assumption)
            have hx4 := bt_at a0 x3_1
            replace p4 := eq_true p4
            replace q4 := eq_true q4
            go_wp2
            go_ret
            exact ⟨by first | rfl | (simp; done) | (simp [*]; done), by repeat (first | exact Drawn0.refl _ | apply Drawn0.step)⟩
          · rw [if_neg c5] at H
            have c5b0 : decide ((bt a0 x3_1) < 48) = false := decide_eq_false c5
            clear c5
            by_cases c7 : (bt a0 x3_1) > 57
            · rw [if_pos c7] at H
              have c7b0 : decide (57 < (bt a0 x3_1)) = true := decide_eq_true c7
              clear c7
              obtain rfl := Option.some.inj H
              have p4 : 0 ≤ (x3_1 : Int) := of_decide_eq_true (by first | (with_reducible assumption) | assumption)
              have q4 : x3_1 < (a0.size : Int) := of_decide_eq_true (by first | (with_reducible assumption) | assumption)
              have hx4 := bt_at a0 x3_1
              replace p4 := eq_true p4
              replace q4 := eq_true q4
              have p6 : 0 ≤ (x3_1 : Int) := of_decide_eq_true (by first | (with_reducible assumption) | assumption)
              have q6 : x3_1 < (a0.size : Int) := of_decide_eq_true (by first | (with_reducible assumption) | assumption)
              have hx6 := bt_at a0 x3_1
              replace p6 := eq_true p6
              replace q6 := eq_true q6
              go_wp2
              go_ret
              exact ⟨by first | rfl | (simp; done) | (simp [*]; done), by repeat (first | exact Drawn0.refl _ | apply Drawn0.step)⟩
            · rw [if_neg c7] at H
              have c7b0 : decide (57 < (bt a0 x3_1)) = false := decide_eq_false c7
              clear c7
              have H' := Aside0.mk H
              clear H
              have p4 : 0 ≤ (x3_1 : Int) := of_decide_eq_true (by first | (with_reducible assumption) | assumption)
              have q4 : x3_1 < (a0.size : Int) := of_decide_eq_true (by first | (with_reducible assumption) | assumption)
              have hx4 := bt_at a0 x3_1
              replace p4 := eq_true p4
              replace q4 := eq_true q4
              have p6 : 0 ≤ (x3_1 : Int) := of_decide_eq_true (by first | (with_reducible assumption) | assumption)
              have q6 : x3_1 < (a0.size : Int) := of_decide_eq_true (by first | (with_reducible assumption) | assumption)
              have hx6 := bt_at a0 x3_1
              replace p6 := eq_true p6
              replace q6 := eq_true q6
              go_wp2
              go_roundg k1
              case measure => have := HK1.out; omega
              case rel => exact ⟨(wrap64 (x3_1 + 1)), (by first | rfl | (simp; done) | (simp [*]; done)), H', ⟨by have := HK1.out; omega⟩, by repeat (first | exact Drawn0.refl _ | apply Drawn0.step)⟩
        · rw [if_neg c3] at H
          exact absurd H (by simp)
      · rw [if_neg c2] at H
        have c2b0 : decide (x3_1 < (a0.size : Int)) = false := decide_eq_false c2
        clear c2
        obtain rfl := Option.some.inj H
        go_wp2
        go_ret
        exact ⟨by first | rfl | (generalize a0.toList = l; cases l <;> rfl) | (simp; done) | (simp [*]; done), by repeat (first | exact Drawn0.refl _ | apply Drawn0.step)⟩
end Go.Proofs.YtgoeiflddikihaaGreatDoor.PFnVersion
end
