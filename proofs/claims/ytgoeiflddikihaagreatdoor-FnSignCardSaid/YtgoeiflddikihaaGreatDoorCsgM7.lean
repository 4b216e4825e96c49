/- Merged by program out of: VBase, VPq, VCmp, VPa, Vsl, VPb, Vsl2. -/
import Derived.Test.YtgoeiflddikihaaGreatDoorCsgM3
import Derived.Stop.Asserts
import Derived.Lib.Hide
import Derived.WalkKit
import Derived.WalkSpells
import Derived.Test.YtgoeiflddikihaaGreatDoorCsgM6
import Derived.Test.YtgoeiflddikihaaGreatDoorCsgM2
import Derived.Sort.Statements
import Derived.Deep.AppendSrc
section
namespace Go.Proofs.YtgoeiflddikihaaGreatDoor.Ver
open Go.RowKit Go.Proofs.YtgoeiflddikihaaGreatDoorW.PrintWords
structure SV where
  major : Int
  minor : Int
  patch : Int
  pre : ByteArray
  mt : ByteArray
  orig : ByteArray
def SV.cells (v : SV) : Array Value := #[.int .u64 v.major, .int .u64 v.minor, .int .u64 v.patch, .string v.pre, .string v.mt, .string v.orig]
inductive Unp where
  | branch (name : ByteArray) (dflt : Bool)
  | plain (s : ByteArray)
  | sem (v : SV)
inductive Vers where
  | rev (s : ByteArray)
  | un (u : Unp)
  | pair (u : Unp) (r : ByteArray)
def Unp.tid : Unp → TypeId
  | .branch _ _ => 215
  | .plain _ => 224
  | .sem _ => 200
def Unp.inner : Unp → Value
  | .branch n d => .agg #[.string n, .bool d]
  | .plain s => .string s
  | .sem v => .agg v.cells
def Unp.val (u : Unp) : Value := .iface u.tid u.inner
def Vers.tid : Vers → TypeId
  | .rev _ => 135
  | .un u => u.tid
  | .pair _ _ => 212
def Vers.inner : Vers → Value
  | .rev s => .string s
  | .un u => u.inner
  | .pair u r => .agg #[u.val, .string r]
def Vers.val (v : Vers) : Value := .iface v.tid v.inner
theorem m_rev_String (v : Value) (w : World) : (method 417 135 v "String").run Tryz.prog w = .ok (101, v) w := by kernel_rfl
theorem m_rev_Type (v : Value) (w : World) : (method 417 135 v "Type").run Tryz.prog w = .ok (198, v) w := by kernel_rfl
theorem m_sv_Intersect (v : Value) (w : World) : (method 417 197 v "Intersect").run Tryz.prog w = .ok (231, v) w := by kernel_rfl
theorem m_sv_Matches (v : Value) (w : World) : (method 417 197 v "Matches").run Tryz.prog w = .ok (232, v) w := by kernel_rfl
theorem m_sem_ImpliedCaretString (v : Value) (w : World) : (method 417 200 v "ImpliedCaretString").run Tryz.prog w = .ok (237, v) w := by kernel_rfl
theorem m_sem_Matches (v : Value) (w : World) : (method 417 200 v "Matches").run Tryz.prog w = .ok (239, v) w := by kernel_rfl
theorem m_sem_Pair (v : Value) (w : World) : (method 417 200 v "Pair").run Tryz.prog w = .ok (241, v) w := by kernel_rfl
theorem m_sem_String (v : Value) (w : World) : (method 417 200 v "String").run Tryz.prog w = .ok (242, v) w := by kernel_rfl
theorem m_sem_Type (v : Value) (w : World) : (method 417 200 v "Type").run Tryz.prog w = .ok (243, v) w := by kernel_rfl
theorem m_sc_Matches (v : Value) (w : World) : (method 417 202 v "Matches").run Tryz.prog w = .ok (251, v) w := by kernel_rfl
theorem m_pair_ImpliedCaretString (v : Value) (w : World) : (method 417 212 v "ImpliedCaretString").run Tryz.prog w = .ok (263, v) w := by kernel_rfl
theorem m_pair_Revision (v : Value) (w : World) : (method 417 212 v "Revision").run Tryz.prog w = .ok (267, v) w := by kernel_rfl
theorem m_pair_String (v : Value) (w : World) : (method 417 212 v "String").run Tryz.prog w = .ok (268, v) w := by kernel_rfl
theorem m_pair_Type (v : Value) (w : World) : (method 417 212 v "Type").run Tryz.prog w = .ok (269, v) w := by kernel_rfl
theorem m_pair_Unpair (v : Value) (w : World) : (method 417 212 v "Unpair").run Tryz.prog w = .ok (270, v) w := by kernel_rfl
theorem m_branch_Pair (v : Value) (w : World) : (method 417 215 v "Pair").run Tryz.prog w = .ok (278, v) w := by kernel_rfl
theorem m_branch_String (v : Value) (w : World) : (method 417 215 v "String").run Tryz.prog w = .ok (279, v) w := by kernel_rfl
theorem m_branch_Type (v : Value) (w : World) : (method 417 215 v "Type").run Tryz.prog w = .ok (280, v) w := by kernel_rfl
theorem m_plain_Pair (v : Value) (w : World) : (method 417 224 v "Pair").run Tryz.prog w = .ok (288, v) w := by kernel_rfl
theorem m_plain_String (v : Value) (w : World) : (method 417 224 v "String").run Tryz.prog w = .ok (289, v) w := by kernel_rfl
theorem m_plain_Type (v : Value) (w : World) : (method 417 224 v "Type").run Tryz.prog w = .ok (290, v) w := by kernel_rfl
theorem m_range_Intersect (v : Value) (w : World) : (method 417 238 v "Intersect").run Tryz.prog w = .ok (295, v) w := by kernel_rfl
theorem m_range_Matches (v : Value) (w : World) : (method 417 238 v "Matches").run Tryz.prog w = .ok (296, v) w := by kernel_rfl
end Go.Proofs.YtgoeiflddikihaaGreatDoor.Ver
end
section
namespace Go.Proofs.YtgoeiflddikihaaGreatDoor.PFnVersion
open Go.RowKit Go.Proofs.YtgoeiflddikihaaGreatDoorW.PrintWords Go.Proofs.YtgoeiflddikihaaGreatDoorW.PrintLast Go.Proofs.YtgoeiflddikihaaGreatDoorW.PrintMore
attribute [local go_sem] max2_int min2_int max_two min_two max_three min_three max_four min_four   -- for this text's walks alone
set_option linter.unusedVariables false
set_option linter.unusedSimpArgs false
structure S27 where
  f0 : Int
  f1 : ByteArray
  f2 : ByteArray
structure S30 where
  f0 : Int
  f1 : ByteArray
  f2 : ByteArray
theorem eqA30 (d : Nat) (w : World) (x0 y0 : Int) (x1 y1 : ByteArray) (x2 y2 : ByteArray) :
    (Op.equalIn (d + 2) 30 (.agg #[.int .i64 x0, .string x1, .string x2]) (.agg #[.int .i64 y0, .string y1, .string y2])).run Tryz.prog w = .ok (x0 == y0 && (x1.toList == y1.toList && (x2.toList == y2.toList))) w := by
  refine eqA_of Tryz.underlying30 (by kernel_rfl) ?_
  refine eqf_cons (by rfl) (by go_simp; rfl) (by go_simp; rfl) (by go_simp) ?_
  refine eqf_cons (by rfl) (by go_simp; rfl) (by go_simp; rfl) (by go_simp) ?_
  exact eqf_last (by rfl) (by go_simp; rfl) (by go_simp; rfl) (by go_simp)
end Go.Proofs.YtgoeiflddikihaaGreatDoor.PFnVersion
end
section
namespace Go.Proofs.YtgoeiflddikihaaGreatDoor.Ver
open Go.Proofs.YtgoeiflddikihaaGreatDoor.Ord Go.Sort
def cmpV : SV → SV → Int := thenC (onC SV.major intC) (thenC (onC SV.minor intC) (thenC (onC SV.patch intC) (onC (fun v => v.pre.data.toList) preC)))
theorem cmp_v : Cmp cmpV := cmp_then (cmp_on _ cmp_int) (cmp_then (cmp_on _ cmp_int) (cmp_then (cmp_on _ cmp_int) (cmp_on _ cmp_pre)))
theorem intC_val (a b : Int) : intC a b = -1 ∨ intC a b = 0 ∨ intC a b = 1 := by
  unfold intC; split
  · exact Or.inl rfl
  · split
    · exact Or.inr (Or.inr rfl)
    · exact Or.inr (Or.inl rfl)
theorem thenC_val {α : Type} {c d : α → α → Int} {a b : α} (h : c a b = -1 ∨ c a b = 0 ∨ c a b = 1) (k : d a b = -1 ∨ d a b = 0 ∨ d a b = 1) : thenC c d a b = -1 ∨ thenC c d a b = 0 ∨ thenC c d a b = 1 := by
  unfold thenC; split
  · exact k
  · exact h
theorem cmpV_val (a b : SV) : cmpV a b = -1 ∨ cmpV a b = 0 ∨ cmpV a b = 1 := thenC_val (intC_val _ _) (thenC_val (intC_val _ _) (thenC_val (intC_val _ _) (preC_val _ _)))
theorem intC_lt {a b : Int} (h : a < b) : intC a b = -1 := by unfold intC; rw [if_pos h]
theorem intC_gt {a b : Int} (h : b < a) : intC a b = 1 := by unfold intC; rw [if_neg (by omega), if_pos h]
theorem thenC_ne {α : Type} {c d : α → α → Int} {a b : α} {x : Int} (h : c a b = x) (hx : x ≠ 0) : thenC c d a b = x := by unfold thenC; rw [h, if_neg hx]
theorem thenC_go {α : Type} {c d : α → α → Int} {a b : α} {x : Int} (h : c a b = 0) (k : d a b = x) : thenC c d a b = x := by unfold thenC; rw [if_pos h]; exact k
def Unp.rank : Unp → Nat
  | .sem _ => 0
  | .branch _ _ => 1
  | .plain _ => 2
def Vers.rank : Vers → Nat
  | .rev _ => 3
  | .un u => u.rank
  | .pair u _ => u.rank
def Vers.bare : Vers → Vers
  | .pair u _ => .un u
  | v => v
def boolN (b : Bool) : Nat := if b then 0 else 1
def Vers.dflt : Vers → Nat
  | .un (.branch _ d) => boolN d
  | .pair (.branch _ d) _ => boolN d
  | _ => 0
def Vers.isPre : Vers → Nat
  | .un (.sem v) => boolN v.pre.data.toList.isEmpty
  | .pair (.sem v) _ => boolN v.pre.data.toList.isEmpty
  | _ => 0
def zV : SV := ⟨0, 0, 0, ⟨#[]⟩, ⟨#[]⟩, ⟨#[]⟩⟩
def Vers.sem : Vers → SV
  | .un (.sem v) => v
  | .pair (.sem v) _ => v
  | _ => zV
def Vers.name : Vers → List UInt8
  | .rev s => s.data.toList
  | .un (.branch n _) => n.data.toList
  | .pair (.branch n _) _ => n.data.toList
  | .un (.plain n) => n.data.toList
  | .pair (.plain n) _ => n.data.toList
  | _ => []
def flipC {α : Type} (down : Bool) (c : α → α → Int) (a b : α) : Int := if down then c a b else c b a
theorem cmp_flip {α : Type} {c : α → α → Int} (down : Bool) (h : Cmp c) : Cmp (flipC down c) := by
  cases down
  · exact ⟨fun a b => h.anti b a, fun a b d h1 h2 => h.trans d b a h2 h1⟩
  · exact h
def versC (down : Bool) : Vers → Vers → Int := thenC (onC Vers.rank natC) (thenC (onC Vers.dflt natC) (thenC (onC Vers.isPre natC) (thenC (onC Vers.name bytesC) (onC Vers.sem (flipC down cmpV)))))
theorem cmp_vers (down : Bool) : Cmp (versC down) := cmp_then (cmp_on _ cmp_nat) (cmp_then (cmp_on _ cmp_nat) (cmp_then (cmp_on _ cmp_nat) (cmp_then (cmp_on _ cmp_bytes) (cmp_on _ (cmp_flip down cmp_v)))))
def lessV (down : Bool) (a b : Vers) : Bool := decide (versC down a b < 0)
theorem swo_vers (down : Bool) : SWO (lessV down) := by
  have h := cmp_vers down
  refine ⟨fun x => ?_, fun x y z h1 h2 => ?_, fun x y z h1 h2 => ?_⟩
  · unfold lessV; rw [h.refl x]; rfl
  · unfold lessV at *
    rw [decide_eq_true_eq] at *
    exact h.lt_le h1 (by omega)
  · unfold lessV at *
    rw [decide_eq_false_iff_not] at *
    have a1 := h.anti x y
    have a2 := h.anti y z
    have a3 := h.anti x z
    have := h.trans z y x (by omega) (by omega)
    omega
theorem less_rank {down : Bool} {a b : Vers} (h : a.rank ≠ b.rank) : lessV down a b = decide (a.rank < b.rank) := by
  have h2 : onC Vers.rank natC a b ≠ 0 := fun e => h (natC_eq e)
  unfold lessV versC thenC
  rw [if_neg h2]
  unfold onC natC
  by_cases hl : a.rank < b.rank
  · simp [hl]
  · rw [if_neg hl, if_pos (by omega)]; simp [hl]
theorem less_bare {down : Bool} {a b : Vers} : lessV down a.bare b.bare = lessV down a b := by
  rcases a with _ | u | ⟨u, _⟩ <;> rcases b with _ | x | ⟨x, _⟩ <;> (try cases u) <;> (try cases x) <;> rfl
theorem less_branch {down : Bool} {n m : ByteArray} {d e : Bool} : lessV down (.un (.branch n d)) (.un (.branch m e)) = if d = e then Op.bytesLess n.data.toList m.data.toList else d := by
  have hb := bytesC_less n.data.toList m.data.toList
  unfold lessV versC thenC onC
  have e1 : natC (Vers.rank (.un (.branch n d))) (Vers.rank (.un (.branch m e))) = 0 := rfl
  rw [if_pos e1]
  have e2 : natC (Vers.isPre (.un (.branch n d))) (Vers.isPre (.un (.branch m e))) = 0 := rfl
  have e3 : flipC down cmpV (Vers.sem (.un (.branch n d))) (Vers.sem (.un (.branch m e))) = 0 := (cmp_flip down cmp_v).refl zV
  rw [if_pos e2, e3]
  show decide ((if natC (boolN d) (boolN e) = 0 then (if bytesC n.data.toList m.data.toList = 0 then 0 else bytesC n.data.toList m.data.toList) else natC (boolN d) (boolN e)) < 0) = _
  have e4 : (if bytesC n.data.toList m.data.toList = 0 then 0 else bytesC n.data.toList m.data.toList) = bytesC n.data.toList m.data.toList := by split <;> omega
  rw [e4, Bool.eq_iff_iff, decide_eq_true_eq]
  cases d <;> cases e
  · exact hb
  · simp [boolN, natC]
  · simp [boolN, natC]
  · exact hb
theorem less_name {down : Bool} {a b : Vers} (h1 : a.rank = b.rank) (h2 : a.dflt = b.dflt) (h3 : a.isPre = b.isPre) (h4 : a.sem = zV) (h5 : b.sem = zV) : lessV down a b = Op.bytesLess a.name b.name := by
  have hb := bytesC_less a.name b.name
  unfold lessV versC thenC onC
  rw [h1, h2, h3, h4, h5]
  rw [if_pos (cmp_nat.refl _), if_pos (cmp_nat.refl _), if_pos (cmp_nat.refl _), (cmp_flip down cmp_v).refl zV]
  have e4 : (if bytesC a.name b.name = 0 then 0 else bytesC a.name b.name) = bytesC a.name b.name := by split <;> omega
  rw [e4, Bool.eq_iff_iff, decide_eq_true_eq]
  exact hb
theorem less_rev {down : Bool} {s t : ByteArray} : lessV down (.rev s) (.rev t) = Op.bytesLess s.data.toList t.data.toList := less_name rfl rfl rfl rfl rfl
theorem less_plain {down : Bool} {s t : ByteArray} : lessV down (.un (.plain s)) (.un (.plain t)) = Op.bytesLess s.data.toList t.data.toList := less_name rfl rfl rfl rfl rfl
theorem less_sem {down : Bool} {v w : SV} : lessV down (.un (.sem v)) (.un (.sem w)) = if v.pre.data.toList.isEmpty = w.pre.data.toList.isEmpty then (if down then decide (cmpV v w < 0) else decide (cmpV v w > 0)) else v.pre.data.toList.isEmpty := by
  have ha := cmp_v.anti v w
  unfold lessV versC thenC onC
  have e1 : natC (Vers.rank (.un (.sem v))) (Vers.rank (.un (.sem w))) = 0 := rfl
  have e2 : natC (Vers.dflt (.un (.sem v))) (Vers.dflt (.un (.sem w))) = 0 := rfl
  have e3 : bytesC (Vers.name (.un (.sem v))) (Vers.name (.un (.sem w))) = 0 := rfl
  rw [if_pos e1, if_pos e2, if_pos e3]
  show decide ((if natC (boolN v.pre.data.toList.isEmpty) (boolN w.pre.data.toList.isEmpty) = 0 then flipC down cmpV v w else natC (boolN v.pre.data.toList.isEmpty) (boolN w.pre.data.toList.isEmpty)) < 0) = _
  generalize v.pre.data.toList.isEmpty = x
  generalize w.pre.data.toList.isEmpty = y
  cases x <;> cases y
  · simp only [boolN, natC, flipC]
    cases down
    · simp; omega
    · simp
  · simp [boolN, natC]
  · simp [boolN, natC]
  · simp only [boolN, natC, flipC]
    cases down
    · simp; omega
    · simp
end Go.Proofs.YtgoeiflddikihaaGreatDoor.Ver
end
section
namespace Go.Proofs.YtgoeiflddikihaaGreatDoor.PFnIntersectAny
open Go.RowKit Go.Proofs.YtgoeiflddikihaaGreatDoorW.PrintWords Go.Proofs.YtgoeiflddikihaaGreatDoorW.PrintLast Go.Proofs.YtgoeiflddikihaaGreatDoorW.PrintMore
attribute [local go_sem] max2_int min2_int max_two min_two max_three min_three max_four min_four   -- for this text's walks alone
set_option linter.unusedVariables false
set_option linter.unusedSimpArgs false
mutual
def semver_identifiers.l0 : Nat → ByteArray → Int → Int → Int → Option (Int)
 | 0, _, _, _, _ => none
 | k + 1, x0, x3, x4, x5 => if x5 < (x0.size : Int) then (if 0 ≤ x5 then (if 48 ≤ (bt x0 x5) then (if (bt x0 x5) ≤ 57 then (semver_identifiers.j1 k x0 x3 x4 x5 (bt x0 x5) true) else (if 97 ≤ (bt x0 x5) then (if (bt x0 x5) ≤ 122 then (semver_identifiers.j1 k x0 x3 x4 x5 (bt x0 x5) true) else (if 65 ≤ (bt x0 x5) then (if (bt x0 x5) ≤ 90 then (semver_identifiers.j1 k x0 x3 x4 x5 (bt x0 x5) true) else (semver_identifiers.j1 k x0 x3 x4 x5 (bt x0 x5) ((bt x0 x5) == 45))) else (semver_identifiers.j1 k x0 x3 x4 x5 (bt x0 x5) ((bt x0 x5) == 45)))) else (if 65 ≤ (bt x0 x5) then (if (bt x0 x5) ≤ 90 then (semver_identifiers.j1 k x0 x3 x4 x5 (bt x0 x5) true) else (semver_identifiers.j1 k x0 x3 x4 x5 (bt x0 x5) ((bt x0 x5) == 45))) else (semver_identifiers.j1 k x0 x3 x4 x5 (bt x0 x5) ((bt x0 x5) == 45))))) else (if 97 ≤ (bt x0 x5) then (if (bt x0 x5) ≤ 122 then (semver_identifiers.j1 k x0 x3 x4 x5 (bt x0 x5) true) else (if 65 ≤ (bt x0 x5) then (if (bt x0 x5) ≤ 90 then (semver_identifiers.j1 k x0 x3 x4 x5 (bt x0 x5) true) else (semver_identifiers.j1 k x0 x3 x4 x5 (bt x0 x5) ((bt x0 x5) == 45))) else (semver_identifiers.j1 k x0 x3 x4 x5 (bt x0 x5) ((bt x0 x5) == 45)))) else (if 65 ≤ (bt x0 x5) then (if (bt x0 x5) ≤ 90 then (semver_identifiers.j1 k x0 x3 x4 x5 (bt x0 x5) true) else (semver_identifiers.j1 k x0 x3 x4 x5 (bt x0 x5) ((bt x0 x5) == 45))) else (semver_identifiers.j1 k x0 x3 x4 x5 (bt x0 x5) ((bt x0 x5) == 45))))) else (none)) else (some x3)
def semver_identifiers.j1 : Nat → ByteArray → Int → Int → Int → Int → Bool → Option (Int)
 | 0, _, _, _, _, _, _ => none
 | k + 1, x0, x3, x4, x5, x6, x17 => if x17 = true then (semver_identifiers.l0 k x0 (wrap64 (x5 + 1)) (wrap64 (x4 + 1)) (wrap64 (x5 + 1))) else (if x6 = 46 then (if x4 > 0 then (semver_identifiers.l0 k x0 x3 0 (wrap64 (x5 + 1))) else (some x3)) else (some x3))
end
def semver_identifiers.f (k : Nat) (a0 : ByteArray) : Option (Int) := semver_identifiers.l0 k a0 0 0 0
theorem semver_identifiers.mono_l : ∀ k, (∀ y0 y1 y2 y3, LeO (semver_identifiers.l0 k y0 y1 y2 y3) (semver_identifiers.l0 (k + 1) y0 y1 y2 y3)) ∧ (∀ y0 y1 y2 y3 y4 y5, LeO (semver_identifiers.j1 k y0 y1 y2 y3 y4 y5) (semver_identifiers.j1 (k + 1) y0 y1 y2 y3 y4 y5))
 | 0 => ⟨fun _ _ _ _ r h => by simp [semver_identifiers.l0] at h, fun _ _ _ _ _ _ r h => by simp [semver_identifiers.j1] at h⟩
 | k + 1 => by
  obtain ⟨ih0, ih1⟩ := semver_identifiers.mono_l k
  refine ⟨?_, ?_⟩
  ·intro y0 y1 y2 y3
   unfold semver_identifiers.l0
   repeat' first
   | (with_reducible exact ih0 _ _ _ _)
   | (with_reducible exact ih1 _ _ _ _ _ _)
   | (with_reducible exact LeO.refl _)
   | (with_reducible exact LeO.none _)
   | (with_reducible refine LeO.ite ?_ ?_)
   | (with_reducible refine LeO.bind ?_ (fun _ => ?_))
   | exact ih0 _ _ _ _
   | exact ih1 _ _ _ _ _ _
   | exact LeO.none _
   | refine LeO.ite ?_ ?_
   | refine LeO.bind ?_ (fun _ => ?_)
  ·intro y0 y1 y2 y3 y4 y5
   unfold semver_identifiers.j1
   repeat' first
   | (with_reducible exact ih0 _ _ _ _)
   | (with_reducible exact ih1 _ _ _ _ _ _)
   | (with_reducible exact LeO.refl _)
   | (with_reducible exact LeO.none _)
   | (with_reducible refine LeO.ite ?_ ?_)
   | (with_reducible refine LeO.bind ?_ (fun _ => ?_))
   | exact ih0 _ _ _ _
   | exact ih1 _ _ _ _ _ _
   | exact LeO.none _
   | refine LeO.ite ?_ ?_
   | refine LeO.bind ?_ (fun _ => ?_)
theorem semver_identifiers.mono : ∀ a0 k, LeO (semver_identifiers.f k a0) (semver_identifiers.f (k + 1) a0) := by
 intro a0 k
 obtain ⟨ih0, ih1⟩ := semver_identifiers.mono_l k
 unfold semver_identifiers.f
 repeat' first
   | (with_reducible exact ih0 _ _ _ _)
   | (with_reducible exact ih1 _ _ _ _ _ _)
   | (with_reducible exact LeO.refl _)
   | (with_reducible exact LeO.none _)
   | (with_reducible refine LeO.ite ?_ ?_)
   | (with_reducible refine LeO.bind ?_ (fun _ => ?_))
   | exact ih0 _ _ _ _
   | exact ih1 _ _ _ _ _ _
   | exact LeO.none _
   | refine LeO.ite ?_ ?_
   | refine LeO.bind ?_ (fun _ => ?_)
set_option maxHeartbeats 8000000 in
set_option maxRecDepth 100000 in
theorem semver_identifiers.calls (k : Nat) (a0 : ByteArray) (r : Int) (w : World) (h : semver_identifiers.f k a0 = some r) :
  Calls Tryz.prog 153 #[.string a0] w fun e w' => e = .returned (.int .i64 r) ∧ Drawn0 w w' := by
 have H : (semver_identifiers.l0 k a0 0 0 0) = some r := h
 clear h
 have H' := Aside0.mk H
 clear H
 go_enter Tryz.func153, Tryz.ntmps153
 go_wp2
 go_loopg [3, 4, 5] k (fun kq v3 v4 v5 w' => ∃ (x3_1 : Int) (x4_1 : Int) (x5_1 : Int), v3 = .int .i64 x3_1 ∧ v4 = .int .i64 x4_1 ∧ v5 = .int .i64 x5_1 ∧ Aside0 (semver_identifiers.l0 kq a0 x3_1 x4_1 x5_1 = some r) ∧ Aside0 (kq ≤ k) ∧ Drawn0 w w')
 case atStart => exact ⟨(0), (0), (0), (by first | rfl | (simp; done) | (simp [*]; done)), (by first | rfl | (simp; done) | (simp [*]; done)), (by first | rfl | (simp; done) | (simp [*]; done)), H', ⟨Nat.le_refl _⟩, by repeat (first | exact Drawn0.refl _ | apply Drawn0.step)⟩
 case round =>
  clear H'
  try clear c1
  obtain ⟨x3_1, x4_1, x5_1, rfl, rfl, rfl, HA, HK1, ⟨m1, rfl⟩⟩ := hrel
  cases gk with
  | zero => exact absurd HA.out (by simp [semver_identifiers.l0])
  | succ k1 =>
   have H := HA.out
   clear HA
   simp only [semver_identifiers.l0] at H
   by_cases c2 : x5_1 < (a0.size : Int)
   ·rw [if_pos c2] at H
    have c2b0 : decide (x5_1 < (a0.size : Int)) = true := decide_eq_true c2
    clear c2
    by_cases c3 : 0 ≤ x5_1
    ·rw [if_pos c3] at H
     have c3b0 : decide (0 ≤ x5_1) = true := decide_eq_true c3
     clear c3
     have HC5 := Aside0.mk H
     clear H
     have p4 : 0 ≤ (x5_1 : Int) := of_decide_eq_true (by first | (with_reducible assumption) | assumption)
     have q4 : x5_1 < (a0.size : Int) := of_decide_eq_true (by first | (with_reducible assumption) | assumption)
     have hx4 := bt_at a0 x5_1
     replace p4 := eq_true p4
     replace q4 := eq_true q4
     go_upto_region 7 with (fail)
     go_cut [17] (fun v17 wc => ∃ (kq : Nat) (x17_4 : Bool), v17 = .bool x17_4 ∧ Aside0 (semver_identifiers.j1 kq a0 x3_1 x4_1 x5_1 (bt a0 x5_1) x17_4 = some r) ∧ Aside0 (kq ≤ k1) ∧ Drawn0 w wc)
     case first =>
      have H := HC5.out
      clear HC5
      by_cases c6 : 48 ≤ (bt a0 x5_1)
      ·rw [if_pos c6] at H
       have c6b0 : decide (48 ≤ (bt a0 x5_1)) = true := decide_eq_true c6
       clear c6
       (first | rw [c6b0] | (simp only [i64_w, i32_w]; rw [c6b0]) | skip)
       by_cases c7 : (bt a0 x5_1) ≤ 57
       ·rw [if_pos c7] at H
        have c7b0 : decide ((bt a0 x5_1) ≤ 57) = true := decide_eq_true c7
        clear c7
        have H' := Aside0.mk H
        clear H
        go_wp2
        go_meet
        case rel => exact ⟨_, (true), (by first | rfl | (simp; done) | (simp [*]; done)), H', ⟨by have := HK1.out; first | omega | exact Nat.le_refl _⟩, by repeat (first | exact Drawn0.refl _ | apply Drawn0.step)⟩
       ·rw [if_neg c7] at H
        have c7b0 : decide ((bt a0 x5_1) ≤ 57) = false := decide_eq_false c7
        clear c7
        by_cases c8 : 97 ≤ (bt a0 x5_1)
        ·rw [if_pos c8] at H
         have c8b0 : decide (97 ≤ (bt a0 x5_1)) = true := decide_eq_true c8
         clear c8
         by_cases c9 : (bt a0 x5_1) ≤ 122
         ·rw [if_pos c9] at H
          have c9b0 : decide ((bt a0 x5_1) ≤ 122) = true := decide_eq_true c9
          clear c9
          have H' := Aside0.mk H
          clear H
          go_wp2
          go_meet
          case rel => exact ⟨_, (true), (by first | rfl | (simp; done) | (simp [*]; done)), H', ⟨by have := HK1.out; first | omega | exact Nat.le_refl _⟩, by repeat (first | exact Drawn0.refl _ | apply Drawn0.step)⟩
         ·rw [if_neg c9] at H
          have c9b0 : decide ((bt a0 x5_1) ≤ 122) = false := decide_eq_false c9
          clear c9
          by_cases c10 : 65 ≤ (bt a0 x5_1)
          ·rw [if_pos c10] at H
           have c10b0 : decide (65 ≤ (bt a0 x5_1)) = true := decide_eq_true c10
           clear c10
           by_cases c11 : (bt a0 x5_1) ≤ 90
           ·rw [if_pos c11] at H
            have c11b0 : decide ((bt a0 x5_1) ≤ 90) = true := decide_eq_true c11
            clear c11
            have H' := Aside0.mk H
            clear H
            go_wp2
            go_meet
            case rel => exact ⟨_, (true), (by first | rfl | (simp; done) | (simp [*]; done)), H', ⟨by have := HK1.out; first | omega | exact Nat.le_refl _⟩, by repeat (first | exact Drawn0.refl _ | apply Drawn0.step)⟩
           ·rw [if_neg c11] at H
            have c11b0 : decide ((bt a0 x5_1) ≤ 90) = false := decide_eq_false c11
            clear c11
            have H' := Aside0.mk H
            clear H
            go_wp2
            go_meet
            case rel => exact ⟨_, (((bt a0 x5_1) == 45)), (by first | rfl | (simp; done) | (simp [*]; done)), H', ⟨by have := HK1.out; first | omega | exact Nat.le_refl _⟩, by repeat (first | exact Drawn0.refl _ | apply Drawn0.step)⟩
          ·rw [if_neg c10] at H
           have c10b0 : decide (65 ≤ (bt a0 x5_1)) = false := decide_eq_false c10
           clear c10
           have H' := Aside0.mk H
           clear H
           go_wp2
           go_meet
           case rel => exact ⟨_, (((bt a0 x5_1) == 45)), (by first | rfl | (simp; done) | (simp [*]; done)), H', ⟨by have := HK1.out; first | omega | exact Nat.le_refl _⟩, by repeat (first | exact Drawn0.refl _ | apply Drawn0.step)⟩
        ·rw [if_neg c8] at H
         have c8b0 : decide (97 ≤ (bt a0 x5_1)) = false := decide_eq_false c8
         clear c8
         by_cases c12 : 65 ≤ (bt a0 x5_1)
         ·rw [if_pos c12] at H
          have c12b0 : decide (65 ≤ (bt a0 x5_1)) = true := decide_eq_true c12
          clear c12
          by_cases c13 : (bt a0 x5_1) ≤ 90
          ·rw [if_pos c13] at H
           have c13b0 : decide ((bt a0 x5_1) ≤ 90) = true := decide_eq_true c13
           clear c13
           have H' := Aside0.mk H
           clear H
           go_wp2
           go_meet
           case rel => exact ⟨_, (true), (by first | rfl | (simp; done) | (simp [*]; done)), H', ⟨by have := HK1.out; first | omega | exact Nat.le_refl _⟩, by repeat (first | exact Drawn0.refl _ | apply Drawn0.step)⟩
          ·rw [if_neg c13] at H
           have c13b0 : decide ((bt a0 x5_1) ≤ 90) = false := decide_eq_false c13
           clear c13
           have H' := Aside0.mk H
           clear H
           go_wp2
           go_meet
           case rel => exact ⟨_, (((bt a0 x5_1) == 45)), (by first | rfl | (simp; done) | (simp [*]; done)), H', ⟨by have := HK1.out; first | omega | exact Nat.le_refl _⟩, by repeat (first | exact Drawn0.refl _ | apply Drawn0.step)⟩
         ·rw [if_neg c12] at H
          have c12b0 : decide (65 ≤ (bt a0 x5_1)) = false := decide_eq_false c12
          clear c12
          have H' := Aside0.mk H
          clear H
          go_wp2
          go_meet
          case rel => exact ⟨_, (((bt a0 x5_1) == 45)), (by first | rfl | (simp; done) | (simp [*]; done)), H', ⟨by have := HK1.out; first | omega | exact Nat.le_refl _⟩, by repeat (first | exact Drawn0.refl _ | apply Drawn0.step)⟩
      ·rw [if_neg c6] at H
       have c6b0 : decide (48 ≤ (bt a0 x5_1)) = false := decide_eq_false c6
       clear c6
       (first | rw [c6b0] | (simp only [i64_w, i32_w]; rw [c6b0]) | skip)
       by_cases c14 : 97 ≤ (bt a0 x5_1)
       ·rw [if_pos c14] at H
        have c14b0 : decide (97 ≤ (bt a0 x5_1)) = true := decide_eq_true c14
        clear c14
        by_cases c15 : (bt a0 x5_1) ≤ 122
        ·rw [if_pos c15] at H
         have c15b0 : decide ((bt a0 x5_1) ≤ 122) = true := decide_eq_true c15
         clear c15
         have H' := Aside0.mk H
         clear H
         go_wp2
         go_meet
         case rel => exact ⟨_, (true), (by first | rfl | (simp; done) | (simp [*]; done)), H', ⟨by have := HK1.out; first | omega | exact Nat.le_refl _⟩, by repeat (first | exact Drawn0.refl _ | apply Drawn0.step)⟩
        ·rw [if_neg c15] at H
         have c15b0 : decide ((bt a0 x5_1) ≤ 122) = false := decide_eq_false c15
         clear c15
         by_cases c16 : 65 ≤ (bt a0 x5_1)
         ·rw [if_pos c16] at H
          have c16b0 : decide (65 ≤ (bt a0 x5_1)) = true := decide_eq_true c16
          clear c16
          by_cases c17 : (bt a0 x5_1) ≤ 90
          ·rw [if_pos c17] at H
           have c17b0 : decide ((bt a0 x5_1) ≤ 90) = true := decide_eq_true c17
           clear c17
           have H' := Aside0.mk H
           clear H
           go_wp2
           go_meet
           case rel => exact ⟨_, (true), (by first | rfl | (simp; done) | (simp [*]; done)), H', ⟨by have := HK1.out; first | omega | exact Nat.le_refl _⟩, by repeat (first | exact Drawn0.refl _ | apply Drawn0.step)⟩
          ·rw [if_neg c17] at H
           have c17b0 : decide ((bt a0 x5_1) ≤ 90) = false := decide_eq_false c17
           clear c17
           have H' := Aside0.mk H
           clear H
           go_wp2
           go_meet
           case rel => exact ⟨_, (((bt a0 x5_1) == 45)), (by first | rfl | (simp; done) | (simp [*]; done)), H', ⟨by have := HK1.out; first | omega | exact Nat.le_refl _⟩, by repeat (first | exact Drawn0.refl _ | apply Drawn0.step)⟩
         ·rw [if_neg c16] at H
          have c16b0 : decide (65 ≤ (bt a0 x5_1)) = false := decide_eq_false c16
          clear c16
          have H' := Aside0.mk H
          clear H
          go_wp2
          go_meet
          case rel => exact ⟨_, (((bt a0 x5_1) == 45)), (by first | rfl | (simp; done) | (simp [*]; done)), H', ⟨by have := HK1.out; first | omega | exact Nat.le_refl _⟩, by repeat (first | exact Drawn0.refl _ | apply Drawn0.step)⟩
       ·rw [if_neg c14] at H
        have c14b0 : decide (97 ≤ (bt a0 x5_1)) = false := decide_eq_false c14
        clear c14
        by_cases c18 : 65 ≤ (bt a0 x5_1)
        ·rw [if_pos c18] at H
         have c18b0 : decide (65 ≤ (bt a0 x5_1)) = true := decide_eq_true c18
         clear c18
         by_cases c19 : (bt a0 x5_1) ≤ 90
         ·rw [if_pos c19] at H
          have c19b0 : decide ((bt a0 x5_1) ≤ 90) = true := decide_eq_true c19
          clear c19
          have H' := Aside0.mk H
          clear H
          go_wp2
          go_meet
          case rel => exact ⟨_, (true), (by first | rfl | (simp; done) | (simp [*]; done)), H', ⟨by have := HK1.out; first | omega | exact Nat.le_refl _⟩, by repeat (first | exact Drawn0.refl _ | apply Drawn0.step)⟩
         ·rw [if_neg c19] at H
          have c19b0 : decide ((bt a0 x5_1) ≤ 90) = false := decide_eq_false c19
          clear c19
          have H' := Aside0.mk H
          clear H
          go_wp2
          go_meet
          case rel => exact ⟨_, (((bt a0 x5_1) == 45)), (by first | rfl | (simp; done) | (simp [*]; done)), H', ⟨by have := HK1.out; first | omega | exact Nat.le_refl _⟩, by repeat (first | exact Drawn0.refl _ | apply Drawn0.step)⟩
        ·rw [if_neg c18] at H
         have c18b0 : decide (65 ≤ (bt a0 x5_1)) = false := decide_eq_false c18
         clear c18
         have H' := Aside0.mk H
         clear H
         go_wp2
         go_meet
         case rel => exact ⟨_, (((bt a0 x5_1) == 45)), (by first | rfl | (simp; done) | (simp [*]; done)), H', ⟨by have := HK1.out; first | omega | exact Nat.le_refl _⟩, by repeat (first | exact Drawn0.refl _ | apply Drawn0.step)⟩
     case rest =>
      clear HC5
      try clear c1
      try clear c2
      try clear c2b0
      try clear p2
      try clear c3
      try clear c3b0
      try clear p4
      try clear q4
      try clear hx4
      try clear c6
      try clear c6b0
      try clear c7
      try clear c7b0
      try clear c8
      try clear c8b0
      try clear c9
      try clear c9b0
      try clear c10
      try clear c10b0
      try clear c11
      try clear c11b0
      try clear c12
      try clear c12b0
      try clear c13
      try clear c13b0
      try clear c14
      try clear c14b0
      try clear c15
      try clear c15b0
      try clear c16
      try clear c16b0
      try clear c17
      try clear c17b0
      try clear c18
      try clear c18b0
      try clear c19
      try clear c19b0
      try clear p4
      try clear q4
      obtain ⟨kq, x17_4, rfl, HA, HJ4, ⟨mc4, rfl⟩⟩ := hcut
      cases kq with
      | zero => exact absurd HA.out (by simp [semver_identifiers.j1])
      | succ kj4 =>
       have H := HA.out
       clear HA
       simp only [semver_identifiers.j1] at H
       by_cases c20 : x17_4 = true
       ·subst c20
        have H1 : (semver_identifiers.l0 kj4 a0 (wrap64 (x5_1 + 1)) (wrap64 (x4_1 + 1)) (wrap64 (x5_1 + 1))) = some r := by rw [if_pos rfl] at H; exact H
        clear H
        have H := H1
        clear H1
        have H' := Aside0.mk H
        clear H
        go_wp2
        go_roundg kj4
        case measure => have := HK1.out; have := HJ4.out; omega
        case rel => exact ⟨(wrap64 (x5_1 + 1)), (wrap64 (x4_1 + 1)), (wrap64 (x5_1 + 1)), (by first | rfl | (simp; done) | (simp [*]; done)), (by first | rfl | (simp; done) | (simp [*]; done)), (by first | rfl | (simp; done) | (simp [*]; done)), H', ⟨by have := HK1.out; have := HJ4.out; omega⟩, by repeat (first | exact Drawn0.refl _ | apply Drawn0.step)⟩
       ·replace c20 := Bool.eq_false_iff.mpr c20
        subst c20
        have H1 : (if (bt a0 x5_1) = 46 then (if x4_1 > 0 then (semver_identifiers.l0 kj4 a0 x3_1 0 (wrap64 (x5_1 + 1))) else (some x3_1)) else (some x3_1)) = some r := by rw [if_neg (show ¬ (false = true) by decide)] at H; exact H
        clear H
        have H := H1
        clear H1
        by_cases c21 : (bt a0 x5_1) = 46
        ·rw [if_pos c21] at H
         have c21b0 : ((bt a0 x5_1) == 46) = true := beq_iff_eq.mpr c21
         have c21b1 : ((bt a0 x5_1) != 46) = false := bne_eq_false_iff_eq.mpr c21
         clear c21
         by_cases c22 : x4_1 > 0
         ·rw [if_pos c22] at H
          have c22b0 : decide (0 < x4_1) = true := decide_eq_true c22
          clear c22
          have H' := Aside0.mk H
          clear H
          go_wp2
          go_roundg kj4
          case measure => have := HK1.out; have := HJ4.out; omega
          case rel => exact ⟨(x3_1), (0), (wrap64 (x5_1 + 1)), (by first | rfl | (simp; done) | (simp [*]; done)), (by first | rfl | (simp; done) | (simp [*]; done)), (by first | rfl | (simp; done) | (simp [*]; done)), H', ⟨by have := HK1.out; have := HJ4.out; omega⟩, by repeat (first | exact Drawn0.refl _ | apply Drawn0.step)⟩
         ·rw [if_neg c22] at H
          have c22b0 : decide (0 < x4_1) = false := decide_eq_false c22
          clear c22
          obtain rfl := Option.some.inj H
          go_wp2
          go_ret
          exact ⟨by first | rfl | (simp; done) | (simp [*]; done), by repeat (first | exact Drawn0.refl _ | apply Drawn0.step)⟩
        ·rw [if_neg c21] at H
         have c21b0 : ((bt a0 x5_1) == 46) = false := beq_eq_false_iff_ne.mpr c21
         have c21b1 : ((bt a0 x5_1) != 46) = true := bne_iff_ne.mpr c21
         obtain rfl := Option.some.inj H
         go_wp2
         go_ret
         exact ⟨by first | rfl | (simp; done) | (simp [*]; done), by repeat (first | exact Drawn0.refl _ | apply Drawn0.step)⟩
    ·rw [if_neg c3] at H
     exact absurd H (by simp)
   ·rw [if_neg c2] at H
    have c2b0 : decide (x5_1 < (a0.size : Int)) = false := decide_eq_false c2
    clear c2
    obtain rfl := Option.some.inj H
    go_wp2
    go_ret
    exact ⟨by first | rfl | (simp; done) | (simp [*]; done), by repeat (first | exact Drawn0.refl _ | apply Drawn0.step)⟩
end Go.Proofs.YtgoeiflddikihaaGreatDoor.PFnIntersectAny
end
section
namespace Go.Proofs.YtgoeiflddikihaaGreatDoor.Mem
set_option linter.unusedSimpArgs false
set_option linter.unusedVariables false
open Go.RowKit Go.Proofs.YtgoeiflddikihaaGreatDoorW.PrintWords Go.Proofs.YtgoeiflddikihaaGreatDoor.PFnVersion
def c3 (x : S30) : List Value := [.int .i64 x.f0, .string x.f1, .string x.f2]
def flat3 (l : List S30) : List Value := l.flatMap c3
theorem flat3_len (l : List S30) : (flat3 l).length = l.length * 3 := by
  induction l with
  | nil => rfl
  | cons x l ih => show (c3 x ++ flat3 l).length = _; rw [List.length_append, ih, List.length_cons]; show 3 + _ = _; omega
theorem flat3_app (a b : List S30) : flat3 (a ++ b) = flat3 a ++ flat3 b := by unfold flat3; rw [List.flatMap_append]
theorem flat3_one : ∀ l : List S30, ∀ u ∈ flat3 l, u.oneCell' = true := by
  intro l u hu
  unfold flat3 at hu
  obtain ⟨x, _, hx⟩ := List.mem_flatMap.1 hu
  simp [c3] at hx
  rcases hx with rfl | rfl | rfl <;> rfl
theorem flat3_drop (l : List S30) (k : Nat) : (flat3 l).drop (k * 3) = flat3 (l.drop k) := by
  by_cases h : k ≤ l.length
  · have e := List.take_append_drop k l
    have h2 : flat3 l = flat3 (l.take k) ++ flat3 (l.drop k) := by rw [← flat3_app, e]
    rw [h2, List.drop_append_of_le_length (by rw [flat3_len, List.length_take]; omega), List.drop_eq_nil_of_le (by rw [flat3_len, List.length_take]; omega)]
    rfl
  · rw [List.drop_eq_nil_of_le (by rw [flat3_len]; omega), List.drop_eq_nil_of_le (by omega)]; rfl
theorem flat3_at (l : List S30) (j : Nat) (h : j < l.length) : (flat3 l)[j * 3]? = some (.int .i64 l[j].f0) ∧ (flat3 l)[j * 3 + 1]? = some (.string l[j].f1) ∧ (flat3 l)[j * 3 + 2]? = some (.string l[j].f2) := by
  have h2 := flat3_drop l j
  rw [List.drop_eq_getElem_cons h] at h2
  have h3 : ∀ i, (flat3 l)[j * 3 + i]? = (c3 l[j] ++ flat3 (l.drop (j + 1)))[i]? := fun i => by
    rw [← List.getElem?_drop, h2]; rfl
  exact ⟨h3 0, h3 1, h3 2⟩
def VOk (out : List S30) (v : Value) (X : List Blk) : Prop :=
  (v = .slice none 0 0 ∧ out = [] ∧ X = []) ∨ ∃ g cap rest, v = .slice (some ⟨g, 0, none⟩) out.length cap ∧ out.length ≤ cap ∧ cap ≤ maxLen ∧ X = [(g, flat3 out ++ rest, 30)]
theorem VOk.val {out : List S30} {v : Value} {X : List Blk} (h : VOk out v X) : ∃ A cap, v = .slice A out.length cap ∧ out.length ≤ cap ∧ cap ≤ maxLen := by
  rcases h with ⟨rfl, rfl, _⟩ | ⟨g, cap, rest, rfl, h, h2, _⟩
  · exact ⟨_, _, rfl, Nat.le_refl _, Nat.zero_le _⟩
  · exact ⟨_, _, rfl, h, h2⟩
theorem VOk.elem {out : List S30} {v : Value} {X L : List Blk} {w0 w : World} (h : VOk out v X) (H : Blks w0 w L) (hs : ∀ x ∈ X, x ∈ L) (hne : out ≠ []) : ∃ g cap, v = .slice (some ⟨g, 0, none⟩) out.length cap ∧
    ∀ j (hj : j < out.length), w.cell? ⟨g, j * 3, none⟩ = some (.int .i64 out[j].f0) ∧ w.cell? ⟨g, j * 3 + 1, none⟩ = some (.string out[j].f1) ∧ w.cell? ⟨g, j * 3 + 2, none⟩ = some (.string out[j].f2) := by
  rcases h with ⟨_, rfl, _⟩ | ⟨g, cap, rest, rfl, h, _, rfl⟩
  · exact absurd rfl hne
  · refine ⟨g, cap, rfl, fun j hj => ?_⟩
    have hb := H.has _ (hs _ (List.mem_singleton.2 rfl))
    have hl := flat3_len out
    have key : ∀ i u, (flat3 out)[i]? = some u → w.cell? ⟨g, i, none⟩ = some u := by
      intro i u hu
      rw [cell_of_row w g i _ _ (0, 0) hb, ← Array.getElem?_toList]
      have : i < (flat3 out).length := (List.getElem?_eq_some_iff.1 hu).1
      rw [List.getElem?_append_left this]; exact hu
    obtain ⟨h0, h1, h2⟩ := flat3_at out j hj
    exact ⟨key _ _ h0, key _ _ h1, key _ _ h2⟩
def tailV (A : Option Addr) (n cap k : Nat) : Value := .slice (if cap = k then A else A.map (·.add (k * 3))) (n - k) (cap - k)
end Go.Proofs.YtgoeiflddikihaaGreatDoor.Mem
end
section
namespace Go.Proofs.YtgoeiflddikihaaGreatDoor.PFnIntersectAny
open Go.RowKit Go.Proofs.YtgoeiflddikihaaGreatDoorW.PrintWords Go.Proofs.YtgoeiflddikihaaGreatDoorW.PrintLast Go.Proofs.YtgoeiflddikihaaGreatDoorW.PrintMore
attribute [local go_sem] max2_int min2_int max_two min_two max_three min_three max_four min_four   -- for this text's walks alone
set_option linter.unusedVariables false
set_option linter.unusedSimpArgs false
mutual
def semver_trim.j1 : Nat → ByteArray → Option (ByteArray)
 | 0, _ => none
 | k + 1, x0 => semver_trim.l1 k x0
def semver_trim.l1 : Nat → ByteArray → Option (ByteArray)
 | 0, _ => none
 | k + 1, x0 => if x0.toList = ([] : List UInt8) then (some x0) else (if 0 ≤ (wrap64 ((x0.size : Int) - 1)) then (if (wrap64 ((x0.size : Int) - 1)) < (x0.size : Int) then (if (bt x0 (wrap64 ((x0.size : Int) - 1))) = 32 then (if (wrap64 ((x0.size : Int) - 1)) ≤ (x0.size : Int) then (semver_trim.l1 k (x0.extract 0 ((wrap64 ((x0.size : Int) - 1)) : Int).toNat)) else (none)) else (some x0)) else (none)) else (none))
def semver_trim.l0 : Nat → ByteArray → Option (ByteArray)
 | 0, _ => none
 | k + 1, x0 => if x0.toList = ([] : List UInt8) then (semver_trim.j1 k x0) else (if 0 < (x0.size : Int) then (if (bt x0 0) = 32 then (if 1 ≤ (x0.size : Int) then (semver_trim.l0 k (x0.extract 1 x0.size)) else (none)) else (semver_trim.j1 k x0)) else (none))
end
def semver_trim.f (k : Nat) (a0 : ByteArray) : Option (ByteArray) := semver_trim.l0 k a0
theorem semver_trim.mono_l : ∀ k, (∀ y0, LeO (semver_trim.j1 k y0) (semver_trim.j1 (k + 1) y0)) ∧ (∀ y0, LeO (semver_trim.l1 k y0) (semver_trim.l1 (k + 1) y0)) ∧ (∀ y0, LeO (semver_trim.l0 k y0) (semver_trim.l0 (k + 1) y0))
 | 0 => ⟨fun _ r h => by simp [semver_trim.j1] at h, fun _ r h => by simp [semver_trim.l1] at h, fun _ r h => by simp [semver_trim.l0] at h⟩
 | k + 1 => by
  obtain ⟨ih0, ih1, ih2⟩ := semver_trim.mono_l k
  refine ⟨?_, ?_, ?_⟩
  ·intro y0
   unfold semver_trim.j1
   repeat' first
   | (with_reducible exact ih0 _)
   | (with_reducible exact ih1 _)
   | (with_reducible exact ih2 _)
   | (with_reducible exact LeO.refl _)
   | (with_reducible exact LeO.none _)
   | (with_reducible refine LeO.ite ?_ ?_)
   | (with_reducible refine LeO.bind ?_ (fun _ => ?_))
   | exact ih0 _
   | exact ih1 _
   | exact ih2 _
   | exact LeO.none _
   | refine LeO.ite ?_ ?_
   | refine LeO.bind ?_ (fun _ => ?_)
  ·intro y0
   unfold semver_trim.l1
   repeat' first
   | (with_reducible exact ih0 _)
   | (with_reducible exact ih1 _)
   | (with_reducible exact ih2 _)
   | (with_reducible exact LeO.refl _)
   | (with_reducible exact LeO.none _)
   | (with_reducible refine LeO.ite ?_ ?_)
   | (with_reducible refine LeO.bind ?_ (fun _ => ?_))
   | exact ih0 _
   | exact ih1 _
   | exact ih2 _
   | exact LeO.none _
   | refine LeO.ite ?_ ?_
   | refine LeO.bind ?_ (fun _ => ?_)
  ·intro y0
   unfold semver_trim.l0
   repeat' first
   | (with_reducible exact ih0 _)
   | (with_reducible exact ih1 _)
   | (with_reducible exact ih2 _)
   | (with_reducible exact LeO.refl _)
   | (with_reducible exact LeO.none _)
   | (with_reducible refine LeO.ite ?_ ?_)
   | (with_reducible refine LeO.bind ?_ (fun _ => ?_))
   | exact ih0 _
   | exact ih1 _
   | exact ih2 _
   | exact LeO.none _
   | refine LeO.ite ?_ ?_
   | refine LeO.bind ?_ (fun _ => ?_)
theorem semver_trim.mono : ∀ a0 k, LeO (semver_trim.f k a0) (semver_trim.f (k + 1) a0) := by
 intro a0 k
 obtain ⟨ih0, ih1, ih2⟩ := semver_trim.mono_l k
 unfold semver_trim.f
 repeat' first
   | (with_reducible exact ih0 _)
   | (with_reducible exact ih1 _)
   | (with_reducible exact ih2 _)
   | (with_reducible exact LeO.refl _)
   | (with_reducible exact LeO.none _)
   | (with_reducible refine LeO.ite ?_ ?_)
   | (with_reducible refine LeO.bind ?_ (fun _ => ?_))
   | exact ih0 _
   | exact ih1 _
   | exact ih2 _
   | exact LeO.none _
   | refine LeO.ite ?_ ?_
   | refine LeO.bind ?_ (fun _ => ?_)
set_option maxHeartbeats 8000000 in
set_option maxRecDepth 100000 in
theorem semver_trim.calls (k : Nat) (a0 : ByteArray) (r : ByteArray) (w : World) (h : semver_trim.f k a0 = some r) :
  Calls Tryz.prog 142 #[.string a0] w fun e w' => e = .returned (.string r) ∧ Drawn0 w w' := by
 have H : (semver_trim.l0 k a0) = some r := h
 clear h
 have HC2 := Aside0.mk H
 clear H
 go_enter Tryz.func142, Tryz.ntmps142
 go_upto_block 0 with (fail)
 go_cut [0] (fun v0 wc => ∃ (kq : Nat) (x0_1 : ByteArray), v0 = .string x0_1 ∧ Aside0 (semver_trim.j1 kq x0_1 = some r) ∧ Aside0 (kq ≤ k) ∧ Drawn0 w wc)
 case first =>
  have H := HC2.out
  clear HC2
  have H' := Aside0.mk H
  clear H
  go_wp2
  go_loopg [0] k (fun kq v0 w' => ∃ (x0_1 : ByteArray), v0 = .string x0_1 ∧ Aside0 (semver_trim.l0 kq x0_1 = some r) ∧ Aside0 (kq ≤ k) ∧ Drawn0 w w')
  case atStart => exact ⟨(a0), (by first | rfl | (simp; done) | (simp [*]; done)), H', ⟨Nat.le_refl _⟩, by repeat (first | exact Drawn0.refl _ | apply Drawn0.step)⟩
  case round =>
   clear H'
   try clear c1
   try clear p2
   obtain ⟨x0_1, rfl, HA, HK1, ⟨m1, rfl⟩⟩ := hrel
   cases gk with
   | zero => exact absurd HA.out (by simp [semver_trim.l0])
   | succ k1 =>
    have H := HA.out
    clear HA
    simp only [semver_trim.l0] at H
    by_cases c3 : x0_1.toList = ([] : List UInt8)
    ·rw [if_pos c3] at H
     have c3b0 : (x0_1.toList == ([] : List UInt8)) = true := beq_iff_eq.mpr c3
     have c3b1 : (x0_1.toList != ([] : List UInt8)) = false := bne_eq_false_iff_eq.mpr c3
     clear c3
     (first | rw [c3b0] | (simp only [i64_w, i32_w]; rw [c3b0]) | skip)
     have H' := Aside0.mk H
     clear H
     go_wp2
     go_meet
     case rel => exact ⟨_, (x0_1), (by first | rfl | (simp; done) | (simp [*]; done)), H', ⟨by have := HK1.out; first | omega | exact Nat.le_refl _⟩, by repeat (first | exact Drawn0.refl _ | apply Drawn0.step)⟩
    ·rw [if_neg c3] at H
     have c3b0 : (x0_1.toList == ([] : List UInt8)) = false := beq_eq_false_iff_ne.mpr c3
     have c3b1 : (x0_1.toList != ([] : List UInt8)) = true := bne_iff_ne.mpr c3
     (first | rw [c3b0] | (simp only [i64_w, i32_w]; rw [c3b0]) | skip)
     by_cases c4 : 0 < (x0_1.size : Int)
     ·rw [if_pos c4] at H
      have c4b0 : decide (0 < (x0_1.size : Int)) = true := decide_eq_true c4
      have c4b1 : decide (0 < x0_1.size) = true := decide_eq_true (by omega)
      clear c4
      by_cases c6 : (bt x0_1 0) = 32
      ·rw [if_pos c6] at H
       have c6b0 : ((bt x0_1 0) == 32) = true := beq_iff_eq.mpr c6
       have c6b1 : ((bt x0_1 0) != 32) = false := bne_eq_false_iff_eq.mpr c6
       clear c6
       by_cases c7 : 1 ≤ (x0_1.size : Int)
       ·rw [if_pos c7] at H
        have c7b0 := eq_true c7
        have c7b1 : decide (1 ≤ (x0_1.size : Int)) = true := decide_eq_true c7
        clear c7
        have H' := Aside0.mk H
        clear H
        have p5 : 0 ≤ (0 : Int) := (by omega)
        have q5 : 0 < x0_1.size := (by have : (0 : Int) < (x0_1.size : Int) := of_decide_eq_true (by first | (with_reducible assumption) | assumption); omega)
        have hx5 : ∀ h : 0 < x0_1.size, ((x0_1[0]'h).toNat : Int) = bt x0_1 0 := bt_at x0_1 0
        clear p5
        have qi5 : (0 < (x0_1.size : Int)) = True := eq_true (of_decide_eq_true (by first | (with_reducible assumption) | assumption))
        replace q5 := eq_true q5
        go_wp2
        go_roundg k1
        case measure => have := HK1.out; omega
        case rel => exact ⟨(x0_1.extract 1 x0_1.size), (by first | rfl | (simp; done) | (simp [*]; done)), H', ⟨by have := HK1.out; omega⟩, by repeat (first | exact Drawn0.refl _ | apply Drawn0.step)⟩
       ·rw [if_neg c7] at H
        exact absurd H (by simp)
      ·rw [if_neg c6] at H
       have c6b0 : ((bt x0_1 0) == 32) = false := beq_eq_false_iff_ne.mpr c6
       have c6b1 : ((bt x0_1 0) != 32) = true := bne_iff_ne.mpr c6
       have H' := Aside0.mk H
       clear H
       have p5 : 0 ≤ (0 : Int) := (by omega)
       have q5 : 0 < x0_1.size := (by have : (0 : Int) < (x0_1.size : Int) := of_decide_eq_true (by first | (with_reducible assumption) | assumption); omega)
       have hx5 : ∀ h : 0 < x0_1.size, ((x0_1[0]'h).toNat : Int) = bt x0_1 0 := bt_at x0_1 0
       clear p5
       have qi5 : (0 < (x0_1.size : Int)) = True := eq_true (of_decide_eq_true (by first | (with_reducible assumption) | assumption))
       replace q5 := eq_true q5
       go_wp2
       go_meet
       case rel => exact ⟨_, (x0_1), (by first | rfl | (simp; done) | (simp [*]; done)), H', ⟨by have := HK1.out; first | omega | exact Nat.le_refl _⟩, by repeat (first | exact Drawn0.refl _ | apply Drawn0.step)⟩
     ·rw [if_neg c4] at H
      exact absurd H (by simp)
 case rest =>
  clear HC2
  try clear c1
  try clear p2
  try clear c3
  try clear c3b0
  try clear c3b1
  try clear c4
  try clear c4b0
  try clear c4b1
  try clear p5
  try clear q5
  try clear hx5
  try clear qi5
  try clear c6
  try clear c6b0
  try clear c6b1
  try clear c7
  try clear c7b0
  try clear c7b1
  try clear p2
  try clear p5
  try clear q5
  obtain ⟨kq, x0_1, rfl, HA, HJ1, ⟨mc1, rfl⟩⟩ := hcut
  cases kq with
  | zero => exact absurd HA.out (by simp [semver_trim.j1])
  | succ kj1 =>
   have H := HA.out
   clear HA
   simp only [semver_trim.j1] at H
   have H' := Aside0.mk H
   clear H
   go_wp2
   go_loopg [0] kj1 (fun kq v0 w' => ∃ (x0_2 : ByteArray), v0 = .string x0_2 ∧ Aside0 (semver_trim.l1 kq x0_2 = some r) ∧ Aside0 (kq ≤ kj1) ∧ Drawn0 w w')
   case atStart => exact ⟨(x0_1), (by first | rfl | (simp; done) | (simp [*]; done)), H', ⟨Nat.le_refl _⟩, by repeat (first | exact Drawn0.refl _ | apply Drawn0.step)⟩
   case round =>
    clear H'
    try clear c1
    try clear p2
    try clear c3
    try clear c3b0
    try clear c3b1
    try clear c4
    try clear c4b0
    try clear c4b1
    try clear p5
    try clear q5
    try clear hx5
    try clear qi5
    try clear c6
    try clear c6b0
    try clear c6b1
    try clear c7
    try clear c7b0
    try clear c7b1
    try clear p2
    try clear p5
    try clear q5
    obtain ⟨x0_2, rfl, HA, HK2, ⟨m2, rfl⟩⟩ := hrel
    cases gk with
    | zero => exact absurd HA.out (by simp [semver_trim.l1])
    | succ k2 =>
     have H := HA.out
     clear HA
     simp only [semver_trim.l1] at H
     by_cases c8 : x0_2.toList = ([] : List UInt8)
     ·rw [if_pos c8] at H
      have c8b0 : (x0_2.toList == ([] : List UInt8)) = true := beq_iff_eq.mpr c8
      have c8b1 : (x0_2.toList != ([] : List UInt8)) = false := bne_eq_false_iff_eq.mpr c8
      clear c8
      obtain rfl := Option.some.inj H
      go_wp2
      go_ret
      exact ⟨by first | rfl | (simp; done) | (simp [*]; done), by repeat (first | exact Drawn0.refl _ | apply Drawn0.step)⟩
     ·rw [if_neg c8] at H
      have c8b0 : (x0_2.toList == ([] : List UInt8)) = false := beq_eq_false_iff_ne.mpr c8
      have c8b1 : (x0_2.toList != ([] : List UInt8)) = true := bne_iff_ne.mpr c8
      obtain ⟨ji9, hji9⟩ : ∃ j_ : Int, (wrap64 ((x0_2.size : Int) - 1)) = j_ := ⟨_, rfl⟩
      replace H : (if 0 ≤ (ji9) then (if (ji9) < (x0_2.size : Int) then (if (bt x0_2 (ji9)) = 32 then (if (ji9) ≤ (x0_2.size : Int) then (semver_trim.l1 k2 (x0_2.extract 0 ((ji9) : Int).toNat)) else (none)) else (some x0_2)) else (none)) else (none)) = some r := by first | (rw [hji9] at H; exact H) | (simp only [hji9] at H ⊢; exact H)
      have hji9w : (IntKind.i64.wrap ((x0_2.size : Int) - 1)) = ji9 := (i64_w _).trans hji9
      by_cases c10 : 0 ≤ (ji9)
      ·rw [if_pos c10] at H
       have c10b0 : decide (0 ≤ (ji9)) = true := decide_eq_true c10
       clear c10
       by_cases c11 : (ji9) < (x0_2.size : Int)
       ·rw [if_pos c11] at H
        have c11b0 : decide ((ji9) < (x0_2.size : Int)) = true := decide_eq_true c11
        clear c11
        by_cases c13 : (bt x0_2 (ji9)) = 32
        ·rw [if_pos c13] at H
         have c13b0 : ((bt x0_2 (ji9)) == 32) = true := beq_iff_eq.mpr c13
         have c13b1 : ((bt x0_2 (ji9)) != 32) = false := bne_eq_false_iff_eq.mpr c13
         clear c13
         have c14b0 := eq_true (of_decide_eq_true (by first | (with_reducible assumption) | assumption) : 0 ≤ (ji9))
         by_cases c15 : (ji9) ≤ (x0_2.size : Int)
         ·rw [if_pos c15] at H
          have c15b0 := eq_true c15
          have c15b1 : decide ((ji9) ≤ (x0_2.size : Int)) = true := decide_eq_true c15
          clear c15
          have H' := Aside0.mk H
          clear H
          have p12 : 0 ≤ ((ji9) : Int) := of_decide_eq_true (by first | (with_reducible assumption) | assumption)
          have q12 : (ji9) < (x0_2.size : Int) := of_decide_eq_true (by first | (with_reducible assumption) | assumption)
          have hx12 := bt_at x0_2 (ji9)
          replace p12 := eq_true p12
          replace q12 := eq_true q12
          go_wp2
          go_roundg k2
          case measure => have := HJ1.out; have := HK2.out; omega
          case rel => exact ⟨(x0_2.extract 0 ((ji9) : Int).toNat), (by first | rfl | (simp; done) | (simp only [← hji9] <;> (first | rfl | simp)) | (simp [*]; done)), H', ⟨by have := HJ1.out; have := HK2.out; omega⟩, by repeat (first | exact Drawn0.refl _ | apply Drawn0.step)⟩
         ·rw [if_neg c15] at H
          exact absurd H (by simp)
        ·rw [if_neg c13] at H
         have c13b0 : ((bt x0_2 (ji9)) == 32) = false := beq_eq_false_iff_ne.mpr c13
         have c13b1 : ((bt x0_2 (ji9)) != 32) = true := bne_iff_ne.mpr c13
         obtain rfl := Option.some.inj H
         have p12 : 0 ≤ ((ji9) : Int) := of_decide_eq_true (by first | (with_reducible assumption) | assumption)
         have q12 : (ji9) < (x0_2.size : Int) := of_decide_eq_true (by first | (with_reducible assumption) | assumption)
         have hx12 := bt_at x0_2 (ji9)
         replace p12 := eq_true p12
         replace q12 := eq_true q12
         go_wp2
         go_ret
         exact ⟨by first | rfl | (simp; done) | (simp only [← hji9] <;> (first | rfl | simp)) | (simp [*]; done), by repeat (first | exact Drawn0.refl _ | apply Drawn0.step)⟩
       ·rw [if_neg c11] at H
        exact absurd H (by simp)
      ·rw [if_neg c10] at H
       exact absurd H (by simp)
def semver_plainNumbers.l0 : Nat → ByteArray → Int → Option (Bool)
 | 0, _, _ => none
 | k + 1, x0, x3 => if x3 < (x0.size : Int) then (if 0 ≤ x3 then (if (bt x0 x3) < 48 then (if (bt x0 x3) = 46 then (semver_plainNumbers.l0 k x0 (wrap64 (x3 + 1))) else (if (bt x0 x3) = 120 then (semver_plainNumbers.l0 k x0 (wrap64 (x3 + 1))) else (if (bt x0 x3) = 88 then (semver_plainNumbers.l0 k x0 (wrap64 (x3 + 1))) else (if (bt x0 x3) = 42 then (semver_plainNumbers.l0 k x0 (wrap64 (x3 + 1))) else (if (bt x0 x3) = 118 then (semver_plainNumbers.l0 k x0 (wrap64 (x3 + 1))) else (some false)))))) else (if (bt x0 x3) > 57 then (if (bt x0 x3) = 46 then (semver_plainNumbers.l0 k x0 (wrap64 (x3 + 1))) else (if (bt x0 x3) = 120 then (semver_plainNumbers.l0 k x0 (wrap64 (x3 + 1))) else (if (bt x0 x3) = 88 then (semver_plainNumbers.l0 k x0 (wrap64 (x3 + 1))) else (if (bt x0 x3) = 42 then (semver_plainNumbers.l0 k x0 (wrap64 (x3 + 1))) else (if (bt x0 x3) = 118 then (semver_plainNumbers.l0 k x0 (wrap64 (x3 + 1))) else (some false)))))) else (semver_plainNumbers.l0 k x0 (wrap64 (x3 + 1))))) else (none)) else (some true)
def semver_plainNumbers.f (k : Nat) (a0 : ByteArray) : Option (Bool) := semver_plainNumbers.l0 k a0 0
theorem semver_plainNumbers.mono_l : ∀ k, (∀ y0 y1, LeO (semver_plainNumbers.l0 k y0 y1) (semver_plainNumbers.l0 (k + 1) y0 y1))
 | 0 => fun _ _ r h => by simp [semver_plainNumbers.l0] at h
 | k + 1 => by
  have ih0 := semver_plainNumbers.mono_l k
  ·intro y0 y1
   unfold semver_plainNumbers.l0
   repeat' first
   | (with_reducible exact ih0 _ _)
   | (with_reducible exact LeO.refl _)
   | (with_reducible exact LeO.none _)
   | (with_reducible refine LeO.ite ?_ ?_)
   | (with_reducible refine LeO.bind ?_ (fun _ => ?_))
   | exact ih0 _ _
   | exact LeO.none _
   | refine LeO.ite ?_ ?_
   | refine LeO.bind ?_ (fun _ => ?_)
theorem semver_plainNumbers.mono : ∀ a0 k, LeO (semver_plainNumbers.f k a0) (semver_plainNumbers.f (k + 1) a0) := by
 intro a0 k
 have ih0 := semver_plainNumbers.mono_l k
 unfold semver_plainNumbers.f
 repeat' first
   | (with_reducible exact ih0 _ _)
   | (with_reducible exact LeO.refl _)
   | (with_reducible exact LeO.none _)
   | (with_reducible refine LeO.ite ?_ ?_)
   | (with_reducible refine LeO.bind ?_ (fun _ => ?_))
   | exact ih0 _ _
   | exact LeO.none _
   | refine LeO.ite ?_ ?_
   | refine LeO.bind ?_ (fun _ => ?_)
set_option maxHeartbeats 8000000 in
set_option maxRecDepth 100000 in
theorem semver_plainNumbers.calls (k : Nat) (a0 : ByteArray) (r : Bool) (w : World) (h : semver_plainNumbers.f k a0 = some r) :
  Calls Tryz.prog 155 #[.string a0] w fun e w' => e = .returned (.bool r) ∧ Drawn0 w w' := by
 have H : (semver_plainNumbers.l0 k a0 0) = some r := h
 clear h
 have H' := Aside0.mk H
 clear H
 go_enter Tryz.func155, Tryz.ntmps155
 go_wp2
 go_loopg [3] k (fun kq v3 w' => ∃ (x3_1 : Int), v3 = .int .i64 x3_1 ∧ Aside0 (semver_plainNumbers.l0 kq a0 x3_1 = some r) ∧ Aside0 (kq ≤ k) ∧ Drawn0 w w')
 case atStart => exact ⟨(0), (by first | rfl | (simp; done) | (simp [*]; done)), H', ⟨Nat.le_refl _⟩, by repeat (first | exact Drawn0.refl _ | apply Drawn0.step)⟩
 case round =>
  clear H'
  try clear c1
  obtain ⟨x3_1, rfl, HA, HK1, ⟨m1, rfl⟩⟩ := hrel
  cases gk with
  | zero => exact absurd HA.out (by simp [semver_plainNumbers.l0])
  | succ k1 =>
   have H := HA.out
   clear HA
   simp only [semver_plainNumbers.l0] at H
   by_cases c2 : x3_1 < (a0.size : Int)
   ·rw [if_pos c2] at H
    have c2b0 : decide (x3_1 < (a0.size : Int)) = true := decide_eq_true c2
    clear c2
    by_cases c3 : 0 ≤ x3_1
    ·rw [if_pos c3] at H
     have c3b0 : decide (0 ≤ x3_1) = true := decide_eq_true c3
     clear c3
     by_cases c5 : (bt a0 x3_1) < 48
     ·rw [if_pos c5] at H
      have c5b0 : decide ((bt a0 x3_1) < 48) = true := decide_eq_true c5
      clear c5
      by_cases c7 : (bt a0 x3_1) = 46
      ·rw [if_pos c7] at H
       have c7b0 : ((bt a0 x3_1) == 46) = true := beq_iff_eq.mpr c7
       have c7b1 : ((bt a0 x3_1) != 46) = false := bne_eq_false_iff_eq.mpr c7
       clear c7
       have H' := Aside0.mk H
       clear H
       have p4 : 0 ≤ (x3_1 : Int) := of_decide_eq_true (by first | (with_reducible assumption) | assumption)
       have q4 : x3_1 < (a0.size : Int) := of_decide_eq_true (by first | (with_reducible assumption) | assumption)
       have hx4 := bt_at a0 x3_1
       replace p4 := eq_true p4
       replace q4 := eq_true q4
       have p6 : 0 ≤ (x3_1 : Int) := of_decide_eq_true (by first | (with_reducible assumption) | assumption)
       have q6 : x3_1 < (a0.size : Int) := of_decide_eq_true (by first | (with_reducible assumption) | assumption)
       have hx6 := bt_at a0 x3_1
       replace p6 := eq_true p6
       replace q6 := eq_true q6
       go_wp2
       go_roundg k1
       case measure => have := HK1.out; omega
       case rel => exact ⟨(wrap64 (x3_1 + 1)), (by first | rfl | (simp; done) | (simp [*]; done)), H', ⟨by have := HK1.out; omega⟩, by repeat (first | exact Drawn0.refl _ | apply Drawn0.step)⟩
      ·rw [if_neg c7] at H
       have c7b0 : ((bt a0 x3_1) == 46) = false := beq_eq_false_iff_ne.mpr c7
       have c7b1 : ((bt a0 x3_1) != 46) = true := bne_iff_ne.mpr c7
       by_cases c9 : (bt a0 x3_1) = 120
       ·rw [if_pos c9] at H
        have c9b0 : ((bt a0 x3_1) == 120) = true := beq_iff_eq.mpr c9
        have c9b1 : ((bt a0 x3_1) != 120) = false := bne_eq_false_iff_eq.mpr c9
        clear c9
        have H' := Aside0.mk H
        clear H
        have p4 : 0 ≤ (x3_1 : Int) := of_decide_eq_true (by first | (with_reducible assumption) | assumption)
        have q4 : x3_1 < (a0.size : Int) := of_decide_eq_true (by first | (with_reducible assumption) | assumption)
        have hx4 := bt_at a0 x3_1
        replace p4 := eq_true p4
        replace q4 := eq_true q4
        have p6 : 0 ≤ (x3_1 : Int) := of_decide_eq_true (by first | (with_reducible assumption) | assumption)
        have q6 : x3_1 < (a0.size : Int) := of_decide_eq_true (by first | (with_reducible assumption) | assumption)
        have hx6 := bt_at a0 x3_1
        replace p6 := eq_true p6
        replace q6 := eq_true q6
        have p8 : 0 ≤ (x3_1 : Int) := of_decide_eq_true (by first | (with_reducible assumption) | assumption)
        have q8 : x3_1 < (a0.size : Int) := of_decide_eq_true (by first | (with_reducible assumption) | assumption)
        have hx8 := bt_at a0 x3_1
        replace p8 := eq_true p8
        replace q8 := eq_true q8
        go_wp2
        go_roundg k1
        case measure => have := HK1.out; omega
        case rel => exact ⟨(wrap64 (x3_1 + 1)), (by first | rfl | (simp; done) | (simp [*]; done)), H', ⟨by have := HK1.out; omega⟩, by repeat (first | exact Drawn0.refl _ | apply Drawn0.step)⟩
       ·rw [if_neg c9] at H
        have c9b0 : ((bt a0 x3_1) == 120) = false := beq_eq_false_iff_ne.mpr c9
        have c9b1 : ((bt a0 x3_1) != 120) = true := bne_iff_ne.mpr c9
        by_cases c11 : (bt a0 x3_1) = 88
        ·rw [if_pos c11] at H
         have c11b0 : ((bt a0 x3_1) == 88) = true := beq_iff_eq.mpr c11
         have c11b1 : ((bt a0 x3_1) != 88) = false := bne_eq_false_iff_eq.mpr c11
         clear c11
         have H' := Aside0.mk H
         clear H
         have p4 : 0 ≤ (x3_1 : Int) := of_decide_eq_true (by first | (with_reducible assumption) | assumption)
         have q4 : x3_1 < (a0.size : Int) := of_decide_eq_true (by first | (with_reducible assumption) | assumption)
         have hx4 := bt_at a0 x3_1
         replace p4 := eq_true p4
         replace q4 := eq_true q4
         have p6 : 0 ≤ (x3_1 : Int) := of_decide_eq_true (by first | (with_reducible assumption) | assumption)
         have q6 : x3_1 < (a0.size : Int) := of_decide_eq_true (by first | (with_reducible assumption) | assumption)
         have hx6 := bt_at a0 x3_1
         replace p6 := eq_true p6
         replace q6 := eq_true q6
         have p8 : 0 ≤ (x3_1 : Int) := of_decide_eq_true (by first | (with_reducible assumption) | assumption)
         have q8 : x3_1 < (a0.size : Int) := of_decide_eq_true (by first | (with_reducible assumption) | assumption)
         have hx8 := bt_at a0 x3_1
         replace p8 := eq_true p8
         replace q8 := eq_true q8
         have p10 : 0 ≤ (x3_1 : Int) := of_decide_eq_true (by first | (with_reducible assumption) | assumption)
         have q10 : x3_1 < (a0.size : Int) := of_decide_eq_true (by first | (with_reducible assumption) | assumption)
         have hx10 := bt_at a0 x3_1
         replace p10 := eq_true p10
         replace q10 := eq_true q10
         go_wp2
         go_roundg k1
         case measure => have := HK1.out; omega
         case rel => exact ⟨(wrap64 (x3_1 + 1)), (by first | rfl | (simp; done) | (simp [*]; done)), H', ⟨by have := HK1.out; omega⟩, by repeat (first | exact Drawn0.refl _ | apply Drawn0.step)⟩
        ·rw [if_neg c11] at H
         have c11b0 : ((bt a0 x3_1) == 88) = false := beq_eq_false_iff_ne.mpr c11
         have c11b1 : ((bt a0 x3_1) != 88) = true := bne_iff_ne.mpr c11
         by_cases c13 : (bt a0 x3_1) = 42
         ·rw [if_pos c13] at H
          have c13b0 : ((bt a0 x3_1) == 42) = true := beq_iff_eq.mpr c13
          have c13b1 : ((bt a0 x3_1) != 42) = false := bne_eq_false_iff_eq.mpr c13
          clear c13
          have H' := Aside0.mk H
          clear H
          have p4 : 0 ≤ (x3_1 : Int) := of_decide_eq_true (by first | (with_reducible assumption) | assumption)
          have q4 : x3_1 < (a0.size : Int) := of_decide_eq_true (by first | (with_reducible assumption) | assumption)
          have hx4 := bt_at a0 x3_1
          replace p4 := eq_true p4
          replace q4 := eq_true q4
          have p6 : 0 ≤ (x3_1 : Int) := of_decide_eq_true (by first | (with_reducible assumption) | assumption)
          have q6 : x3_1 < (a0.size : Int) := of_decide_eq_true (by first | (with_reducible assumption) | assumption)
          have hx6 := bt_at a0 x3_1
          replace p6 := eq_true p6
          replace q6 := eq_true q6
          have p8 : 0 ≤ (x3_1 : Int) := of_decide_eq_true (by first | (with_reducible assumption) | assumption)
          have q8 : x3_1 < (a0.size : Int) := of_decide_eq_true (by first | (with_reducible assumption) | assumption)
          have hx8 := bt_at a0 x3_1
          replace p8 := eq_true p8
          replace q8 := eq_true q8
          have p10 : 0 ≤ (x3_1 : Int) := of_decide_eq_true (by first | (with_reducible assumption) | assumption)
          have q10 : x3_1 < (a0.size : Int) := of_decide_eq_true (by first | (with_reducible assumption) | assumption)
          have hx10 := bt_at a0 x3_1
          replace p10 := eq_true p10
          replace q10 := eq_true q10
          have p12 : 0 ≤ (x3_1 : Int) := of_decide_eq_true (by first | (with_reducible assumption) | assumption)
          have q12 : x3_1 < (a0.size : Int) := of_decide_eq_true (by first | (with_reducible assumption) | assumption)
          have hx12 := bt_at a0 x3_1
          replace p12 := eq_true p12
          replace q12 := eq_true q12
          go_wp2
          go_roundg k1
          case measure => have := HK1.out; omega
          case rel => exact ⟨(wrap64 (x3_1 + 1)), (by first | rfl | (simp; done) | (simp [*]; done)), H', ⟨by have := HK1.out; omega⟩, by repeat (first | exact Drawn0.refl _ | apply Drawn0.step)⟩
         ·rw [if_neg c13] at H
          have c13b0 : ((bt a0 x3_1) == 42) = false := beq_eq_false_iff_ne.mpr c13
          have c13b1 : ((bt a0 x3_1) != 42) = true := bne_iff_ne.mpr c13
          by_cases c15 : (bt a0 x3_1) = 118
          ·rw [if_pos c15] at H
           have c15b0 : ((bt a0 x3_1) == 118) = true := beq_iff_eq.mpr c15
           have c15b1 : ((bt a0 x3_1) != 118) = false := bne_eq_false_iff_eq.mpr c15
           clear c15
           have H' := Aside0.mk H
           clear H
           have p4 : 0 ≤ (x3_1 : Int) := of_decide_eq_true (by first | (with_reducible assumption) | assumption)
           have q4 : x3_1 < (a0.size : Int) := of_decide_eq_true (by first | (with_reducible assumption) | assumption)
           have hx4 := bt_at a0 x3_1
           replace p4 := eq_true p4
           replace q4 := eq_true q4
           have p6 : 0 ≤ (x3_1 : Int) := of_decide_eq_true (by first | (with_reducible assumption) | assumption)
           have q6 : x3_1 < (a0.size : Int) := of_decide_eq_true (by first | (with_reducible assumption) | assumption)
           have hx6 := bt_at a0 x3_1
           replace p6 := eq_true p6
           replace q6 := eq_true q6
           have p8 : 0 ≤ (x3_1 : Int) := of_decide_eq_true (by first | (with_reducible assumption) | assumption)
           have q8 : x3_1 < (a0.size : Int) := of_decide_eq_true (by first | (with_reducible assumption) | assumption)
           have hx8 := bt_at a0 x3_1
           replace p8 := eq_true p8
           replace q8 := eq_true q8
           have p10 : 0 ≤ (x3_1 : Int) := of_decide_eq_true (by first | (with_reducible assumption) | assumption)
           have q10 : x3_1 < (a0.size : Int) := of_decide_eq_true (by first | (with_reducible assumption) | assumption)
           have hx10 := bt_at a0 x3_1
           replace p10 := eq_true p10
           replace q10 := eq_true q10
           have p12 : 0 ≤ (x3_1 : Int) := of_decide_eq_true (by first | (with_reducible assumption) | assumption)
           have q12 : x3_1 < (a0.size : Int) := of_decide_eq_true (by first | (with_reducible assumption) | assumption)
           have hx12 := bt_at a0 x3_1
           replace p12 := eq_true p12
           replace q12 := eq_true q12
           have p14 : 0 ≤ (x3_1 : Int) := of_decide_eq_true (by first | (with_reducible assumption) | assumption)
           have q14 : x3_1 < (a0.size : Int) := of_decide_eq_true (by first | (with_reducible assumption) | assumption)
           have hx14 := bt_at a0 x3_1
           replace p14 := eq_true p14
           replace q14 := eq_true q14
           go_wp2
           go_roundg k1
           case measure => have := HK1.out; omega
           case rel => exact ⟨(wrap64 (x3_1 + 1)), (by first | rfl | (simp; done) | (simp [*]; done)), H', ⟨by have := HK1.out; omega⟩, by repeat (first | exact Drawn0.refl _ | apply Drawn0.step)⟩
          ·rw [if_neg c15] at H
           have c15b0 : ((bt a0 x3_1) == 118) = false := beq_eq_false_iff_ne.mpr c15
           have c15b1 : ((bt a0 x3_1) != 118) = true := bne_iff_ne.mpr c15
           obtain rfl := Option.some.inj H
           have p4 : 0 ≤ (x3_1 : Int) := of_decide_eq_true (by first | (with_reducible assumption) | assumption)
           have q4 : x3_1 < (a0.size : Int) := of_decide_eq_true (by first | (with_reducible assumption) | assumption)
           have hx4 := bt_at a0 x3_1
           replace p4 := eq_true p4
           replace q4 := eq_true q4
           have p6 : 0 ≤ (x3_1 : Int) := of_decide_eq_true (by first | (with_reducible assumption) | assumption)
           have q6 : x3_1 < (a0.size : Int) := of_decide_eq_true (by first | (with_reducible assumption) | assumption)
           have hx6 := bt_at a0 x3_1
           replace p6 := eq_true p6
           replace q6 := eq_true q6
           have p8 : 0 ≤ (x3_1 : Int) := of_decide_eq_true (by first | (with_reducible assumption) | assumption)
           have q8 : x3_1 < (a0.size : Int) := of_decide_eq_true (by first | (with_reducible assumption) | assumption)
           have hx8 := bt_at a0 x3_1
           replace p8 := eq_true p8
           replace q8 := eq_true q8
           have p10 : 0 ≤ (x3_1 : Int) := of_decide_eq_true (by first | (with_reducible assumption) | assumption)
           have q10 : x3_1 < (a0.size : Int) := of_decide_eq_true (by first | (with_reducible assumption) | assumption)
           have hx10 := bt_at a0 x3_1
           replace p10 := eq_true p10
           replace q10 := eq_true q10
           have p12 : 0 ≤ (x3_1 : Int) := of_decide_eq_true (by first | (with_reducible assumption) | assumption)
           have q12 : x3_1 < (a0.size : Int) := of_decide_eq_true (by first | (with_reducible assumption) | assumption)
           have hx12 := bt_at a0 x3_1
           replace p12 := eq_true p12
           replace q12 := eq_true q12
           have p14 : 0 ≤ (x3_1 : Int) := of_decide_eq_true (by first | (with_reducible assumption) | assumption)
           have q14 : x3_1 < (a0.size : Int) := of_decide_eq_true (by first | (with_reducible assumption) | assumption)
           have hx14 := bt_at a0 x3_1
           replace p14 := eq_true p14
           replace q14 := eq_true q14
           go_wp2
           go_ret
           exact ⟨by first | rfl | (simp; done) | (simp [*]; done), by repeat (first | exact Drawn0.refl _ | apply Drawn0.step)⟩
     ·rw [if_neg c5] at H
      have c5b0 : decide ((bt a0 x3_1) < 48) = false := decide_eq_false c5
      clear c5
      by_cases c17 : (bt a0 x3_1) > 57
      ·rw [if_pos c17] at H
       have c17b0 : decide (57 < (bt a0 x3_1)) = true := decide_eq_true c17
       clear c17
       by_cases c19 : (bt a0 x3_1) = 46
       ·rw [if_pos c19] at H
        have c19b0 : ((bt a0 x3_1) == 46) = true := beq_iff_eq.mpr c19
        have c19b1 : ((bt a0 x3_1) != 46) = false := bne_eq_false_iff_eq.mpr c19
        clear c19
        have H' := Aside0.mk H
        clear H
        have p4 : 0 ≤ (x3_1 : Int) := of_decide_eq_true (by first | (with_reducible assumption) | assumption)
        have q4 : x3_1 < (a0.size : Int) := of_decide_eq_true (by first | (with_reducible assumption) | assumption)
        have hx4 := bt_at a0 x3_1
        replace p4 := eq_true p4
        replace q4 := eq_true q4
        have p16 : 0 ≤ (x3_1 : Int) := of_decide_eq_true (by first | (with_reducible assumption) | assumption)
        have q16 : x3_1 < (a0.size : Int) := of_decide_eq_true (by first | (with_reducible assumption) | assumption)
        have hx16 := bt_at a0 x3_1
        replace p16 := eq_true p16
        replace q16 := eq_true q16
        have p18 : 0 ≤ (x3_1 : Int) := of_decide_eq_true (by first | (with_reducible assumption) | assumption)
        have q18 : x3_1 < (a0.size : Int) := of_decide_eq_true (by first | (with_reducible assumption) | assumption)
        have hx18 := bt_at a0 x3_1
        replace p18 := eq_true p18
        replace q18 := eq_true q18
        go_wp2
        go_roundg k1
        case measure => have := HK1.out; omega
        case rel => exact ⟨(wrap64 (x3_1 + 1)), (by first | rfl | (simp; done) | (simp [*]; done)), H', ⟨by have := HK1.out; omega⟩, by repeat (first | exact Drawn0.refl _ | apply Drawn0.step)⟩
       ·rw [if_neg c19] at H
        have c19b0 : ((bt a0 x3_1) == 46) = false := beq_eq_false_iff_ne.mpr c19
        have c19b1 : ((bt a0 x3_1) != 46) = true := bne_iff_ne.mpr c19
        by_cases c21 : (bt a0 x3_1) = 120
        ·rw [if_pos c21] at H
         have c21b0 : ((bt a0 x3_1) == 120) = true := beq_iff_eq.mpr c21
         have c21b1 : ((bt a0 x3_1) != 120) = false := bne_eq_false_iff_eq.mpr c21
         clear c21
         have H' := Aside0.mk H
         clear H
         have p4 : 0 ≤ (x3_1 : Int) := of_decide_eq_true (by first | (with_reducible assumption) | assumption)
         have q4 : x3_1 < (a0.size : Int) := of_decide_eq_true (by first | (with_reducible assumption) | assumption)
         have hx4 := bt_at a0 x3_1
         replace p4 := eq_true p4
         replace q4 := eq_true q4
         have p16 : 0 ≤ (x3_1 : Int) := of_decide_eq_true (by first | (with_reducible assumption) | assumption)
         have q16 : x3_1 < (a0.size : Int) := of_decide_eq_true (by first | (with_reducible assumption) | assumption)
         have hx16 := bt_at a0 x3_1
         replace p16 := eq_true p16
         replace q16 := eq_true q16
         have p18 : 0 ≤ (x3_1 : Int) := of_decide_eq_true (by first | (with_reducible assumption) | assumption)
         have q18 : x3_1 < (a0.size : Int) := of_decide_eq_true (by first | (with_reducible assumption) | assumption)
         have hx18 := bt_at a0 x3_1
         replace p18 := eq_true p18
         replace q18 := eq_true q18
         have p20 : 0 ≤ (x3_1 : Int) := of_decide_eq_true (by first | (with_reducible assumption) | assumption)
         have q20 : x3_1 < (a0.size : Int) := of_decide_eq_true (by first | (with_reducible assumption) | assumption)
         have hx20 := bt_at a0 x3_1
         replace p20 := eq_true p20
         replace q20 := eq_true q20
         go_wp2
         go_roundg k1
         case measure => have := HK1.out; omega
         case rel => exact ⟨(wrap64 (x3_1 + 1)), (by first | rfl | (simp; done) | (simp [*]; done)), H', ⟨by have := HK1.out; omega⟩, by repeat (first | exact Drawn0.refl _ | apply Drawn0.step)⟩
        ·rw [if_neg c21] at H
         have c21b0 : ((bt a0 x3_1) == 120) = false := beq_eq_false_iff_ne.mpr c21
         have c21b1 : ((bt a0 x3_1) != 120) = true := bne_iff_ne.mpr c21
         by_cases c23 : (bt a0 x3_1) = 88
         ·rw [if_pos c23] at H
          have c23b0 : ((bt a0 x3_1) == 88) = true := beq_iff_eq.mpr c23
          have c23b1 : ((bt a0 x3_1) != 88) = false := bne_eq_false_iff_eq.mpr c23
          clear c23
          have H' := Aside0.mk H
          clear H
          have p4 : 0 ≤ (x3_1 : Int) := of_decide_eq_true (by first | (with_reducible assumption) | assumption)
          have q4 : x3_1 < (a0.size : Int) := of_decide_eq_true (by first | (with_reducible assumption) | assumption)
          have hx4 := bt_at a0 x3_1
          replace p4 := eq_true p4
          replace q4 := eq_true q4
          have p16 : 0 ≤ (x3_1 : Int) := of_decide_eq_true (by first | (with_reducible assumption) | assumption)
          have q16 : x3_1 < (a0.size : Int) := of_decide_eq_true (by first | (with_reducible assumption) | assumption)
          have hx16 := bt_at a0 x3_1
          replace p16 := eq_true p16
          replace q16 := eq_true q16
          have p18 : 0 ≤ (x3_1 : Int) := of_decide_eq_true (by first | (with_reducible assumption) | assumption)
          have q18 : x3_1 < (a0.size : Int) := of_decide_eq_true (by first | (with_reducible assumption) | assumption)
          have hx18 := bt_at a0 x3_1
          replace p18 := eq_true p18
          replace q18 := eq_true q18
          have p20 : 0 ≤ (x3_1 : Int) := of_decide_eq_true (by first | (with_reducible assumption) | assumption)
          have q20 : x3_1 < (a0.size : Int) := of_decide_eq_true (by first | (with_reducible assumption) | assumption)
          have hx20 := bt_at a0 x3_1
          replace p20 := eq_true p20
          replace q20 := eq_true q20
          have p22 : 0 ≤ (x3_1 : Int) := of_decide_eq_true (by first | (with_reducible assumption) | assumption)
          have q22 : x3_1 < (a0.size : Int) := of_decide_eq_true (by first | (with_reducible assumption) | assumption)
          have hx22 := bt_at a0 x3_1
          replace p22 := eq_true p22
          replace q22 := eq_true q22
          go_wp2
          go_roundg k1
          case measure => have := HK1.out; omega
          case rel => exact ⟨(wrap64 (x3_1 + 1)), (by first | rfl | (simp; done) | (simp [*]; done)), H', ⟨by have := HK1.out; omega⟩, by repeat (first | exact Drawn0.refl _ | apply Drawn0.step)⟩
         ·rw [if_neg c23] at H
          have c23b0 : ((bt a0 x3_1) == 88) = false := beq_eq_false_iff_ne.mpr c23
          have c23b1 : ((bt a0 x3_1) != 88) = true := bne_iff_ne.mpr c23
          by_cases c25 : (bt a0 x3_1) = 42
          ·rw [if_pos c25] at H
           have c25b0 : ((bt a0 x3_1) == 42) = true := beq_iff_eq.mpr c25
           have c25b1 : ((bt a0 x3_1) != 42) = false := bne_eq_false_iff_eq.mpr c25
           clear c25
           have H' := Aside0.mk H
           clear H
           have p4 : 0 ≤ (x3_1 : Int) := of_decide_eq_true (by first | (with_reducible assumption) | assumption)
           have q4 : x3_1 < (a0.size : Int) := of_decide_eq_true (by first | (with_reducible assumption) | assumption)
           have hx4 := bt_at a0 x3_1
           replace p4 := eq_true p4
           replace q4 := eq_true q4
           have p16 : 0 ≤ (x3_1 : Int) := of_decide_eq_true (by first | (with_reducible assumption) | assumption)
           have q16 : x3_1 < (a0.size : Int) := of_decide_eq_true (by first | (with_reducible assumption) | assumption)
           have hx16 := bt_at a0 x3_1
           replace p16 := eq_true p16
           replace q16 := eq_true q16
           have p18 : 0 ≤ (x3_1 : Int) := of_decide_eq_true (by first | (with_reducible assumption) | assumption)
           have q18 : x3_1 < (a0.size : Int) := of_decide_eq_true (by first | (with_reducible assumption) | assumption)
           have hx18 := bt_at a0 x3_1
           replace p18 := eq_true p18
           replace q18 := eq_true q18
           have p20 : 0 ≤ (x3_1 : Int) := of_decide_eq_true (by first | (with_reducible assumption) | assumption)
           have q20 : x3_1 < (a0.size : Int) := of_decide_eq_true (by first | (with_reducible assumption) | assumption)
           have hx20 := bt_at a0 x3_1
           replace p20 := eq_true p20
           replace q20 := eq_true q20
           have p22 : 0 ≤ (x3_1 : Int) := of_decide_eq_true (by first | (with_reducible assumption) | assumption)
           have q22 : x3_1 < (a0.size : Int) := of_decide_eq_true (by first | (with_reducible assumption) | assumption)
           have hx22 := bt_at a0 x3_1
           replace p22 := eq_true p22
           replace q22 := eq_true q22
           have p24 : 0 ≤ (x3_1 : Int) := of_decide_eq_true (by first | (with_reducible assumption) | assumption)
           have q24 : x3_1 < (a0.size : Int) := of_decide_eq_true (by first | (with_reducible assumption) | assumption)
           have hx24 := bt_at a0 x3_1
           replace p24 := eq_true p24
           replace q24 := eq_true q24
           go_wp2
           go_roundg k1
           case measure => have := HK1.out; omega
           case rel => exact ⟨(wrap64 (x3_1 + 1)), (by first | rfl | (simp; done) | (simp [*]; done)), H', ⟨by have := HK1.out; omega⟩, by repeat (first | exact Drawn0.refl _ | apply Drawn0.step)⟩
          ·rw [if_neg c25] at H
           have c25b0 : ((bt a0 x3_1) == 42) = false := beq_eq_false_iff_ne.mpr c25
           have c25b1 : ((bt a0 x3_1) != 42) = true := bne_iff_ne.mpr c25
           by_cases c27 : (bt a0 x3_1) = 118
           ·rw [if_pos c27] at H
            have c27b0 : ((bt a0 x3_1) == 118) = true := beq_iff_eq.mpr c27
            have c27b1 : ((bt a0 x3_1) != 118) = false := bne_eq_false_iff_eq.mpr c27
            clear c27
            have H' := Aside0.mk H
            clear H
            have p4 : 0 ≤ (x3_1 : Int) := of_decide_eq_true (by first | (with_reducible assumption) | assumption)
            have q4 : x3_1 < (a0.size : Int) := of_decide_eq_true (by first | (with_reducible assumption) | assumption)
            have hx4 := bt_at a0 x3_1
            replace p4 := eq_true p4
            replace q4 := eq_true q4
            have p16 : 0 ≤ (x3_1 : Int) := of_decide_eq_true (by first | (with_reducible assumption) | assumption)
            have q16 : x3_1 < (a0.size : Int) := of_decide_eq_true (by first | (with_reducible assumption) | assumption)
            have hx16 := bt_at a0 x3_1
            replace p16 := eq_true p16
            replace q16 := eq_true q16
            have p18 : 0 ≤ (x3_1 : Int) := of_decide_eq_true (by first | (with_reducible assumption) | assumption)
            have q18 : x3_1 < (a0.size : Int) := of_decide_eq_true (by first | (with_reducible assumption) | assumption)
            have hx18 := bt_at a0 x3_1
            replace p18 := eq_true p18
            replace q18 := eq_true q18
            have p20 : 0 ≤ (x3_1 : Int) := of_decide_eq_true (by first | (with_reducible assumption) | assumption)
            have q20 : x3_1 < (a0.size : Int) := of_decide_eq_true (by first | (with_reducible assumption) | assumption)
            have hx20 := bt_at a0 x3_1
            replace p20 := eq_true p20
            replace q20 := eq_true q20
            have p22 : 0 ≤ (x3_1 : Int) := of_decide_eq_true (by first | (with_reducible assumption) | assumption)
            have q22 : x3_1 < (a0.size : Int) := of_decide_eq_true (by first | (with_reducible assumption) | assumption)
            have hx22 := bt_at a0 x3_1
            replace p22 := eq_true p22
            replace q22 := eq_true q22
            have p24 : 0 ≤ (x3_1 : Int) := of_decide_eq_true (by first | (with_reducible assumption) | assumption)
            have q24 : x3_1 < (a0.size : Int) := of_decide_eq_true (by first | (with_reducible assumption) | assumption)
            have hx24 := bt_at a0 x3_1
            replace p24 := eq_true p24
            replace q24 := eq_true q24
            have p26 : 0 ≤ (x3_1 : Int) := of_decide_eq_true (by first | (with_reducible assumption) | assumption)
            have q26 : x3_1 < (a0.size : Int) := of_decide_eq_true (by first | (with_reducible assumption) | assumption)
            have hx26 := bt_at a0 x3_1
            replace p26 := eq_true p26
            replace q26 := eq_true q26
            go_wp2
            go_roundg k1
            case measure => have := HK1.out; omega
            case rel => exact ⟨(wrap64 (x3_1 + 1)), (by first | rfl | (simp; done) | (simp [*]; done)), H', ⟨by have := HK1.out; omega⟩, by repeat (first | exact Drawn0.refl _ | apply Drawn0.step)⟩
           ·rw [if_neg c27] at H
            have c27b0 : ((bt a0 x3_1) == 118) = false := beq_eq_false_iff_ne.mpr c27
            have c27b1 : ((bt a0 x3_1) != 118) = true := bne_iff_ne.mpr c27
            obtain rfl := Option.some.inj H
            have p4 : 0 ≤ (x3_1 : Int) := of_decide_eq_true (by first | (with_reducible assumption) | assumption)
            have q4 : x3_1 < (a0.size : Int) := of_decide_eq_true (by first | (with_reducible assumption) | assumption)
            have hx4 := bt_at a0 x3_1
            replace p4 := eq_true p4
            replace q4 := eq_true q4
            have p16 : 0 ≤ (x3_1 : Int) := of_decide_eq_true (by first | (with_reducible assumption) | assumption)
            have q16 : x3_1 < (a0.size : Int) := of_decide_eq_true (by first | (with_reducible assumption) | assumption)
            have hx16 := bt_at a0 x3_1
            replace p16 := eq_true p16
            replace q16 := eq_true q16
            have p18 : 0 ≤ (x3_1 : Int) := of_decide_eq_true (by first | (with_reducible assumption) | assumption)
            have q18 : x3_1 < (a0.size : Int) := of_decide_eq_true (by first | (with_reducible assumption) | assumption)
            have hx18 := bt_at a0 x3_1
            replace p18 := eq_true p18
            replace q18 := eq_true q18
            have p20 : 0 ≤ (x3_1 : Int) := of_decide_eq_true (by first | (with_reducible assumption) | assumption)
            have q20 : x3_1 < (a0.size : Int) := of_decide_eq_true (by first | (with_reducible assumption) | assumption)
            have hx20 := bt_at a0 x3_1
            replace p20 := eq_true p20
            replace q20 := eq_true q20
            have p22 : 0 ≤ (x3_1 : Int) := of_decide_eq_true (by first | (with_reducible assumption) | assumption)
            have q22 : x3_1 < (a0.size : Int) := of_decide_eq_true (by first | (with_reducible assumption) | assumption)
            have hx22 := bt_at a0 x3_1
            replace p22 := eq_true p22
            replace q22 := eq_true q22
            have p24 : 0 ≤ (x3_1 : Int) := of_decide_eq_true (by first | (with_reducible assumption) | assumption)
            have q24 : x3_1 < (a0.size : Int) := of_decide_eq_true (by first | (with_reducible assumption) | assumption)
            have hx24 := bt_at a0 x3_1
            replace p24 := eq_true p24
            replace q24 := eq_true q24
            have p26 : 0 ≤ (x3_1 : Int) := of_decide_eq_true (by first | (with_reducible assumption) | assumption)
            have q26 : x3_1 < (a0.size : Int) := of_decide_eq_true (by first | (with_reducible assumption) | assumption)
            have hx26 := bt_at a0 x3_1
            replace p26 := eq_true p26
            replace q26 := eq_true q26
            go_wp2
            go_ret
            exact ⟨by first | rfl | (simp; done) | (simp [*]; done), by repeat (first | exact Drawn0.refl _ | apply Drawn0.step)⟩
      ·rw [if_neg c17] at H
       have c17b0 : decide (57 < (bt a0 x3_1)) = false := decide_eq_false c17
       clear c17
       have H' := Aside0.mk H
       clear H
       have p4 : 0 ≤ (x3_1 : Int) := of_decide_eq_true (by first | (with_reducible assumption) | assumption)
       have q4 : x3_1 < (a0.size : Int) := of_decide_eq_true (by first | (with_reducible assumption) | assumption)
       have hx4 := bt_at a0 x3_1
       replace p4 := eq_true p4
       replace q4 := eq_true q4
       have p16 : 0 ≤ (x3_1 : Int) := of_decide_eq_true (by first | (with_reducible assumption) | assumption)
       have q16 : x3_1 < (a0.size : Int) := of_decide_eq_true (by first | (with_reducible assumption) | assumption)
       have hx16 := bt_at a0 x3_1
       replace p16 := eq_true p16
       replace q16 := eq_true q16
       go_wp2
       go_roundg k1
       case measure => have := HK1.out; omega
       case rel => exact ⟨(wrap64 (x3_1 + 1)), (by first | rfl | (simp; done) | (simp [*]; done)), H', ⟨by have := HK1.out; omega⟩, by repeat (first | exact Drawn0.refl _ | apply Drawn0.step)⟩
    ·rw [if_neg c3] at H
     exact absurd H (by simp)
   ·rw [if_neg c2] at H
    have c2b0 : decide (x3_1 < (a0.size : Int)) = false := decide_eq_false c2
    clear c2
    obtain rfl := Option.some.inj H
    go_wp2
    go_ret
    exact ⟨by first | rfl | (simp; done) | (simp [*]; done), by repeat (first | exact Drawn0.refl _ | apply Drawn0.step)⟩
end Go.Proofs.YtgoeiflddikihaaGreatDoor.PFnIntersectAny
end
section
namespace Go.Proofs.YtgoeiflddikihaaGreatDoor.Mem
set_option linter.unusedSimpArgs false
set_option linter.unusedVariables false
open Go.RowKit Go.Proofs.YtgoeiflddikihaaGreatDoorW.PrintWords Go.Proofs.YtgoeiflddikihaaGreatDoor.PFnVersion
theorem Blks.reads {w0 w : World} {L : List Blk} (H : Blks w0 w L) {g : Nat} {cs rest : List Value} {t : TypeId} (hm : (g, cs ++ rest, t) ∈ L) : ∀ j u, cs[j]? = some u → w.cell? ⟨g, j, none⟩ = some u := by
  intro i u hu
  have hb := H.has _ hm
  rw [cell_of_row w g i _ _ (0, 0) hb, ← Array.getElem?_toList]
  have : i < cs.length := (List.getElem?_eq_some_iff.1 hu).1
  rw [List.getElem?_append_left this]; exact hu
theorem add0 (g o j : Nat) : (⟨g, o, none⟩ : Addr).add j = ⟨g, o + j, none⟩ := Addr.add_mid g o j
theorem VOk.src {out : List S30} {X L : List Blk} {w0 w : World} {A : Option Addr} {cap : Nat} (h : VOk out (.slice A out.length cap) X) (H : Blks w0 w L) (hs : ∀ x ∈ X, x ∈ L) (k : Nat) (hk : k ≤ out.length) :
    Src Tryz.prog 3 67 (tailV A out.length cap k) (out.length - k) (flat3 (out.drop k)) w := by
  have hu : Tryz.prog.underlying 67 = some (.slice 30) := Tryz.underlying67
  have hl : (flat3 (out.drop k)).length = (out.length - k) * 3 := by rw [flat3_len, List.length_drop]
  rcases h with ⟨h1, rfl, rfl⟩ | ⟨g, cp, rest, h1, h2, h3, rfl⟩
  · injection h1 with a1 a2 a3
    subst a1 a3
    obtain rfl : k = 0 := by simpa using hk
    exact Src.ofNil w hu 0
  · injection h1 with a1 a2 a3
    subst a1 a3
    have hm := hs _ (List.mem_singleton.2 rfl)
    unfold tailV
    by_cases hc : cap = k
    · rw [if_pos hc]
      have : out.length - k = 0 := by omega
      have hn : out.drop k = [] := List.drop_eq_nil_of_le (by omega)
      rw [hn, this]
      exact Src.ofSlice w hu _ 0 _ [] (by simp) (fun j u h => by simp at h) (fun u h => by cases h)
    · rw [if_neg hc]
      refine Src.ofSlice w hu _ _ _ _ hl (fun j u hj => ?_) (flat3_one _)
      show w.cell? (((⟨g, 0, none⟩ : Addr).add (k * 3)).add j) = some u
      rw [add0, add0]
      rw [← flat3_drop, List.getElem?_drop] at hj
      have := H.reads hm (k * 3 + j) u hj
      simpa using this
theorem VOk.nodup {out : List S30} {v : Value} {X : List Blk} (h : VOk out v X) : (X.map (·.1)).Nodup := by
  rcases h with ⟨_, _, rfl⟩ | ⟨g, cap, rest, _, _, _, rfl⟩ <;> simp
end Go.Proofs.YtgoeiflddikihaaGreatDoor.Mem
end
