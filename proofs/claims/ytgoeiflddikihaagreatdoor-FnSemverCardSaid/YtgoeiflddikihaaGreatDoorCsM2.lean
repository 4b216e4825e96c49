/- Merged by program out of: WN, WRepsOne, WInv, WMore, PFnIntersectAnyx0, VBase. -/
import Derived.Test.YtgoeiflddikihaaGreatDoorCsM1
import Derived.Test.YtgoeiflddikihaaGreatDoorCsM0
import Derived.Test.YtgoeiflddikihaaGreatDoorProg
import Derived.Below
import Derived.Deep.Draws
import Derived.Deep.AppendLies
import Derived.Maps.AppendAt
import Derived.OwnWalk
import Derived.Laws.BytesArg
import Derived.Laws.MakeOwn
import Derived.Laws.OwnMore
import Derived.Deep.OwnRows
import Derived.Tactics
import Derived.Lib.ConvBytes
import Derived.Laws.Slices
import Derived.WalkKit
import Derived.KernelRfl
import Derived.RowKit3
import Derived.Deep.LoopGhost
import Derived.Deep.QuietTactic
import Derived.BigQuiet
import Derived.WideLaws
import Derived.Deep.DeepCutAuto
import Derived.Deep.CutBlock
import Derived.Deep.RegionHeld3
import Derived.Laws.Rows
import Derived.Lib.AppendStr
import Derived.ArgAppend
import Derived.Laws.IdiomCopy
import Derived.OrdersHeld
import Derived.Laws.BitsLemmas
import Derived.RowKit
import Derived.Laws.StructEq
import Derived.Stop.Asserts
import Derived.Lib.Hide
import Derived.WalkSpells
section
namespace Go.Proofs.YtgoeiflddikihaaGreatDoorW.PrintWords
open Go.RowKit
namespace Kd
def chunks (sz : Nat) (n : Nat) (inner : List Value) : List (List Value) := (List.range n).map fun j => (inner.drop (j * sz)).take sz
theorem chunks_length (sz n : Nat) (inner : List Value) : (chunks sz n inner).length = n := by simp [chunks]
theorem chunks_at {sz n : Nat} {inner : List Value} {j : Nat} (hj : j < n) : (chunks sz n inner)[j]? = some ((inner.drop (j * sz)).take sz) := by simp [chunks, hj]
theorem chunks_get {sz n : Nat} {inner : List Value} {j : Nat} {c : List Value} (h : (chunks sz n inner)[j]? = some c) : c = (inner.drop (j * sz)).take sz := by
  have hj : j < n := by have := (List.getElem?_eq_some_iff.1 h).1; rwa [chunks_length] at this
  rw [chunks_at hj] at h
  injection h with h
  exact h.symm
theorem reps_raw {α : Type} {Rr : α → List Value → Prop} {sz : Nat} {xs : List α} {inner : List Value} (h : Reps Rr sz xs inner) (hR : ∀ x c, Rr x c → c.length = sz ∧ ∀ u ∈ c, u.oneCell' = true) : Reps (fun x cs => cs = x ∧ cs.length = sz ∧ ∀ u ∈ cs, u.oneCell' = true) sz (chunks sz xs.length inner) inner := by
  refine ⟨by rw [chunks_length]; exact h.1, fun j p hj => ?_⟩
  have hjl : j < xs.length := by have := (List.getElem?_eq_some_iff.1 hj).1; rwa [chunks_length] at this
  have hp := chunks_get hj
  exact ⟨hp.symm, hR _ _ (h.2 j _ (List.getElem?_eq_getElem hjl))⟩
section
variable {α : Type} {d : Kd α} {e base n cc g : Nat} {ok ok' okp S : Nat → Prop} {w w1 W W1 : World} {A : Option Addr} {u v v1 : Value} {xs : List α} {x : α} {c : List Value}
def N {α : Type} (d : Kd α) (e : Nat) (w : World) (base : Nat) (ok : Nat → Prop) (v : Value) (xs : List α) : Prop :=
  (∀ k, v.ownBlock = some k → ok k) ∧ ∃ rows : List (List Value), rows.length = xs.length ∧ (raw d.sz).R e w base (fun k => some k = v.ownBlock) v rows ∧ ∀ (j : Nat) (x : α) (c : List Value), xs[j]? = some x → rows[j]? = some c → FK d w (fun k => ok k ∧ some k ≠ v.ownBlock) x c
theorem R_N (h : d.R e w base ok v xs) : N d e w base ok v xs := by
  obtain ⟨h0, inner, ho, hr⟩ := h
  refine ⟨h0, chunks d.sz xs.length inner, chunks_length _ _ _, ⟨fun k hk => hk.symm, inner, by rw [chunks_length]; exact ho, reps_raw hr (fun x c hp => ⟨d.K_len (d.K_of_M hp), d.K_one (d.K_of_M hp)⟩)⟩, fun j x c hx hc => ?_⟩
  rw [chunks_get hc]
  exact FK_of_M (hr.2 j x hx)
theorem N_nil (d : Kd α) (e : Nat) (w : World) (base : Nat) (ok : Nat → Prop) : N d e w base ok (.slice none 0 0) [] := R_N (R_nil _ _ _ _ _)
end
end Kd
end Go.Proofs.YtgoeiflddikihaaGreatDoorW.PrintWords
end
section
namespace Go.Proofs.YtgoeiflddikihaaGreatDoorW.PrintWords
theorem Reps.one {α : Type} {R : α → List Value → Prop} {ps : List α} {cs : List Value} {p : α} {v : Value} (hp : R p [v]) (h : Reps R 1 ps cs) : Reps R 1 (p :: ps) (v :: cs) := by
  refine ⟨by simp [h.1], fun j q hq => ?_⟩
  cases j with
  | zero =>
    simp only [List.getElem?_cons_zero, Option.some.injEq] at hq
    subst hq
    simpa using hp
  | succ j =>
    simp only [List.getElem?_cons_succ] at hq
    have h1 := h.2 j q hq
    simpa [Nat.mul_one] using h1
theorem Reps.front {α : Type} {R : α → List Value → Prop} {size : Nat} {ps : List α} {cs c all : List Value} {p : α} (hp : R p c) (hc : c.length = size) (h : Reps R size ps cs) (ha : c ++ cs = all) : Reps R size (p :: ps) all := by
  subst ha
  refine ⟨by rw [List.length_append, hc, h.1, List.length_cons, Nat.succ_mul, Nat.add_comm], fun j q hq => ?_⟩
  cases j with
  | zero =>
    simp only [List.getElem?_cons_zero, Option.some.injEq] at hq
    subst hq
    rw [Nat.zero_mul, List.drop_zero, List.take_append_of_le_length (by omega), List.take_of_length_le (by omega)]
    exact hp
  | succ j =>
    simp only [List.getElem?_cons_succ] at hq
    have h1 := h.2 j q hq
    rw [Nat.succ_mul, List.drop_append, List.drop_of_length_le (by rw [hc]; exact Nat.le_add_left _ _), List.nil_append, hc, Nat.add_sub_cancel]
    exact h1
theorem Reps.c2 {α : Type} {R : α → List Value → Prop} {ps : List α} {cs : List Value} {p : α} {va vb : Value} (hp : R p [va, vb]) (h : Reps R 2 ps cs) : Reps R 2 (p :: ps) (va :: vb :: cs) := Reps.front hp rfl h rfl
theorem Reps.c3 {α : Type} {R : α → List Value → Prop} {ps : List α} {cs : List Value} {p : α} {va vb vc : Value} (hp : R p [va, vb, vc]) (h : Reps R 3 ps cs) : Reps R 3 (p :: ps) (va :: vb :: vc :: cs) := Reps.front hp rfl h rfl
theorem Reps.c4 {α : Type} {R : α → List Value → Prop} {ps : List α} {cs : List Value} {p : α} {va vb vc vd : Value} (hp : R p [va, vb, vc, vd]) (h : Reps R 4 ps cs) : Reps R 4 (p :: ps) (va :: vb :: vc :: vd :: cs) := Reps.front hp rfl h rfl
theorem Reps.c5 {α : Type} {R : α → List Value → Prop} {ps : List α} {cs : List Value} {p : α} {va vb vc vd ve : Value} (hp : R p [va, vb, vc, vd, ve]) (h : Reps R 5 ps cs) : Reps R 5 (p :: ps) (va :: vb :: vc :: vd :: ve :: cs) := Reps.front hp rfl h rfl
theorem Reps.c6 {α : Type} {R : α → List Value → Prop} {ps : List α} {cs : List Value} {p : α} {va vb vc vd ve vf : Value} (hp : R p [va, vb, vc, vd, ve, vf]) (h : Reps R 6 ps cs) : Reps R 6 (p :: ps) (va :: vb :: vc :: vd :: ve :: vf :: cs) := Reps.front hp rfl h rfl
theorem Reps.c7 {α : Type} {R : α → List Value → Prop} {ps : List α} {cs : List Value} {p : α} {va vb vc vd ve vf vg : Value} (hp : R p [va, vb, vc, vd, ve, vf, vg]) (h : Reps R 7 ps cs) : Reps R 7 (p :: ps) (va :: vb :: vc :: vd :: ve :: vf :: vg :: cs) := Reps.front hp rfl h rfl
theorem Reps.c8 {α : Type} {R : α → List Value → Prop} {ps : List α} {cs : List Value} {p : α} {va vb vc vd ve vf vg vh : Value} (hp : R p [va, vb, vc, vd, ve, vf, vg, vh]) (h : Reps R 8 ps cs) : Reps R 8 (p :: ps) (va :: vb :: vc :: vd :: ve :: vf :: vg :: vh :: cs) := Reps.front hp rfl h rfl
theorem Reps.c9 {α : Type} {R : α → List Value → Prop} {ps : List α} {cs : List Value} {p : α} {va vb vc vd ve vf vg vh vi : Value} (hp : R p [va, vb, vc, vd, ve, vf, vg, vh, vi]) (h : Reps R 9 ps cs) : Reps R 9 (p :: ps) (va :: vb :: vc :: vd :: ve :: vf :: vg :: vh :: vi :: cs) := Reps.front hp rfl h rfl
theorem Reps.c10 {α : Type} {R : α → List Value → Prop} {ps : List α} {cs : List Value} {p : α} {va vb vc vd ve vf vg vh vi vj : Value} (hp : R p [va, vb, vc, vd, ve, vf, vg, vh, vi, vj]) (h : Reps R 10 ps cs) : Reps R 10 (p :: ps) (va :: vb :: vc :: vd :: ve :: vf :: vg :: vh :: vi :: vj :: cs) := Reps.front hp rfl h rfl
end Go.Proofs.YtgoeiflddikihaaGreatDoorW.PrintWords
end
section
namespace Go.Proofs.YtgoeiflddikihaaGreatDoorW.PrintLast
def up (b : Nat → Bool) (i : Nat) : Nat → Bool := fun j => if j = i then true else b j
end Go.Proofs.YtgoeiflddikihaaGreatDoorW.PrintLast
end
section
namespace Go.Proofs.YtgoeiflddikihaaGreatDoorW.PrintMore
open Go.RowKit Go.Proofs.YtgoeiflddikihaaGreatDoorW.PrintWords
namespace Kd
open Go.Proofs.YtgoeiflddikihaaGreatDoorW.PrintWords.Kd
end Kd
namespace Kd
open Go.Proofs.YtgoeiflddikihaaGreatDoorW.PrintWords.Kd
end Kd
theorem max2_int (k k' : IntKind) (x y : Int) : Builtin.max2 (.int k x) (.int k' y) = pure (.int k (if x < y then y else x)) := by simp only [Builtin.max2, gt_iff_lt]
theorem min2_int (k k' : IntKind) (x y : Int) : Builtin.min2 (.int k x) (.int k' y) = pure (.int k (if y < x then y else x)) := by simp only [Builtin.min2]
theorem max_two (ats : Array TypeId) (ty : TypeId) (a b : Value) : Builtin.max_ ats ty #[a, b] = (Builtin.max2 a b >>= fun s => pure s) := by simp only [Builtin.max_, List.foldlM_cons, List.foldlM_nil]
theorem min_two (ats : Array TypeId) (ty : TypeId) (a b : Value) : Builtin.min_ ats ty #[a, b] = (Builtin.min2 a b >>= fun s => pure s) := by simp only [Builtin.min_, List.foldlM_cons, List.foldlM_nil]
theorem max_three (ats : Array TypeId) (ty : TypeId) (a b c : Value) : Builtin.max_ ats ty #[a, b, c] = (Builtin.max2 a b >>= fun s => Builtin.max2 s c >>= fun s => pure s) := by simp only [Builtin.max_, List.foldlM_cons, List.foldlM_nil]
theorem min_three (ats : Array TypeId) (ty : TypeId) (a b c : Value) : Builtin.min_ ats ty #[a, b, c] = (Builtin.min2 a b >>= fun s => Builtin.min2 s c >>= fun s => pure s) := by simp only [Builtin.min_, List.foldlM_cons, List.foldlM_nil]
theorem max_four (ats : Array TypeId) (ty : TypeId) (a b c d : Value) : Builtin.max_ ats ty #[a, b, c, d] = (Builtin.max2 a b >>= fun s => Builtin.max2 s c >>= fun s => Builtin.max2 s d >>= fun s => pure s) := by simp only [Builtin.max_, List.foldlM_cons, List.foldlM_nil]
theorem min_four (ats : Array TypeId) (ty : TypeId) (a b c d : Value) : Builtin.min_ ats ty #[a, b, c, d] = (Builtin.min2 a b >>= fun s => Builtin.min2 s c >>= fun s => Builtin.min2 s d >>= fun s => pure s) := by simp only [Builtin.min_, List.foldlM_cons, List.foldlM_nil]
end Go.Proofs.YtgoeiflddikihaaGreatDoorW.PrintMore
namespace Go.Proofs.YtgoeiflddikihaaGreatDoorW.PrintWords
open Go.RowKit
section
variable {P : Program} {ops : Array Oper} {rest : List Oper} {o : Oper} {a : Act} {Q : Exit → Act → World → Prop} {W : World}
theorem gate_callee {f : FuncId} {as : Array Operand} {ts : Array TypeId} (_ho : o.op = .call { callee := .value (.func f), args := as, argTypes := ts }) (h : wpList P ops Q (o :: rest) a W) : wpList P ops Q (o :: rest) a W := h
theorem gate_builtin {b : Builtin} {xs : Array Operand} {ts : Array TypeId} (_ho : o.op = .call { callee := .builtin b, args := xs, argTypes := ts }) (h : wpList P ops Q (o :: rest) a W) : wpList P ops Q (o :: rest) a W := h
end
namespace Kd
end Kd
end Go.Proofs.YtgoeiflddikihaaGreatDoorW.PrintWords
namespace Go.Proofs.YtgoeiflddikihaaGreatDoorW.PrintWords
open Go.RowKit
namespace Kd
def V {α : Type} (d : Kd α) (_e : Nat) (W : World) (_base : Nat) (ok : Nat → Prop) (v : Value) (xs : List α) : Prop := ∃ A c, v = .slice A xs.length c ∧ xs.length ≤ c ∧ F d W ok A xs.length xs
section
variable {α β : Type} {d : Kd α} {e base base' n m c g N' lo hi : Nat} {ok ok' S : Nat → Prop} {w W w1 : World} {A : Option Addr} {ad : Addr} {u v v1 : Value} {xs : List α}
theorem V_nil (d : Kd α) (e : Nat) (W : World) (base : Nat) (ok : Nat → Prop) : V d e W base ok (.slice none 0 0) [] := ⟨none, 0, rfl, Nat.le_refl _, F_nil d W ok⟩
end
end Kd
end Go.Proofs.YtgoeiflddikihaaGreatDoorW.PrintWords
end
section
namespace Go.Proofs.YtgoeiflddikihaaGreatDoor.PFnIntersectAny
open Go.RowKit Go.Proofs.YtgoeiflddikihaaGreatDoorW.PrintWords Go.Proofs.YtgoeiflddikihaaGreatDoorW.PrintLast Go.Proofs.YtgoeiflddikihaaGreatDoorW.PrintMore
attribute [local go_sem] max2_int min2_int max_two min_two max_three min_three max_four min_four   -- for this text's walks alone
set_option linter.unusedVariables false
set_option linter.unusedSimpArgs false
def errW : Option Int → Value
  | none => .nilIface
  | some c => .iface 267 (.int .i64 c)
theorem errW_none : errW none = .nilIface := rfl
theorem errW_some (c : Int) : errW (some c) = .iface 267 (.int .i64 c) := rfl
theorem info9 : (Tryz.prog.info? 9).map (fun i => (i.zero, i.size, i.bytes)) = some (some (.string ⟨#[]⟩), 1, 16) := by kernel_rfl
end Go.Proofs.YtgoeiflddikihaaGreatDoor.PFnIntersectAny
end
section
namespace Go.Proofs.YtgoeiflddikihaaGreatDoor.Ver
open Go.RowKit Go.Proofs.YtgoeiflddikihaaGreatDoorW.PrintWords
structure SV where
  major : Int
  minor : Int
  patch : Int
  pre : ByteArray
  mt : ByteArray
  orig : ByteArray
def SV.cells (v : SV) : Array Value := #[.int .u64 v.major, .int .u64 v.minor, .int .u64 v.patch, .string v.pre, .string v.mt, .string v.orig]
inductive Unp where
  | branch (name : ByteArray) (dflt : Bool)
  | plain (s : ByteArray)
  | sem (v : SV)
inductive Vers where
  | rev (s : ByteArray)
  | un (u : Unp)
  | pair (u : Unp) (r : ByteArray)
def Unp.tid : Unp → TypeId
  | .branch _ _ => 215
  | .plain _ => 224
  | .sem _ => 200
def Unp.inner : Unp → Value
  | .branch n d => .agg #[.string n, .bool d]
  | .plain s => .string s
  | .sem v => .agg v.cells
def Unp.val (u : Unp) : Value := .iface u.tid u.inner
def Vers.tid : Vers → TypeId
  | .rev _ => 135
  | .un u => u.tid
  | .pair _ _ => 212
def Vers.inner : Vers → Value
  | .rev s => .string s
  | .un u => u.inner
  | .pair u r => .agg #[u.val, .string r]
def Vers.val (v : Vers) : Value := .iface v.tid v.inner
theorem m_rev_String (v : Value) (w : World) : (method 417 135 v "String").run Tryz.prog w = .ok (101, v) w := by kernel_rfl
theorem m_rev_Type (v : Value) (w : World) : (method 417 135 v "Type").run Tryz.prog w = .ok (198, v) w := by kernel_rfl
theorem m_sem_ImpliedCaretString (v : Value) (w : World) : (method 417 200 v "ImpliedCaretString").run Tryz.prog w = .ok (237, v) w := by kernel_rfl
theorem m_sem_Pair (v : Value) (w : World) : (method 417 200 v "Pair").run Tryz.prog w = .ok (241, v) w := by kernel_rfl
theorem m_sem_String (v : Value) (w : World) : (method 417 200 v "String").run Tryz.prog w = .ok (242, v) w := by kernel_rfl
theorem m_sem_Type (v : Value) (w : World) : (method 417 200 v "Type").run Tryz.prog w = .ok (243, v) w := by kernel_rfl
theorem m_sc_Matches (v : Value) (w : World) : (method 417 202 v "Matches").run Tryz.prog w = .ok (251, v) w := by kernel_rfl
theorem m_pair_ImpliedCaretString (v : Value) (w : World) : (method 417 212 v "ImpliedCaretString").run Tryz.prog w = .ok (263, v) w := by kernel_rfl
theorem m_pair_Revision (v : Value) (w : World) : (method 417 212 v "Revision").run Tryz.prog w = .ok (267, v) w := by kernel_rfl
theorem m_pair_String (v : Value) (w : World) : (method 417 212 v "String").run Tryz.prog w = .ok (268, v) w := by kernel_rfl
theorem m_pair_Type (v : Value) (w : World) : (method 417 212 v "Type").run Tryz.prog w = .ok (269, v) w := by kernel_rfl
theorem m_pair_Unpair (v : Value) (w : World) : (method 417 212 v "Unpair").run Tryz.prog w = .ok (270, v) w := by kernel_rfl
theorem m_branch_Pair (v : Value) (w : World) : (method 417 215 v "Pair").run Tryz.prog w = .ok (278, v) w := by kernel_rfl
theorem m_branch_String (v : Value) (w : World) : (method 417 215 v "String").run Tryz.prog w = .ok (279, v) w := by kernel_rfl
theorem m_branch_Type (v : Value) (w : World) : (method 417 215 v "Type").run Tryz.prog w = .ok (280, v) w := by kernel_rfl
theorem m_plain_ImpliedCaretString (v : Value) (w : World) : (method 417 224 v "ImpliedCaretString").run Tryz.prog w = .ok (284, v) w := by kernel_rfl
theorem m_plain_Pair (v : Value) (w : World) : (method 417 224 v "Pair").run Tryz.prog w = .ok (288, v) w := by kernel_rfl
theorem m_plain_String (v : Value) (w : World) : (method 417 224 v "String").run Tryz.prog w = .ok (289, v) w := by kernel_rfl
theorem m_plain_Type (v : Value) (w : World) : (method 417 224 v "Type").run Tryz.prog w = .ok (290, v) w := by kernel_rfl
theorem m_range_Intersect (v : Value) (w : World) : (method 417 238 v "Intersect").run Tryz.prog w = .ok (295, v) w := by kernel_rfl
theorem m_range_Matches (v : Value) (w : World) : (method 417 238 v "Matches").run Tryz.prog w = .ok (296, v) w := by kernel_rfl
end Go.Proofs.YtgoeiflddikihaaGreatDoor.Ver
end
