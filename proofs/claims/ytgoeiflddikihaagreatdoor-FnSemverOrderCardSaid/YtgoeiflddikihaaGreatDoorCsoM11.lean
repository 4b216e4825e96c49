/- Merged by program out of: Pd, VAs, AwakeB, VLess, VTold, AwakeC, VLess2. -/
import Derived.Test.YtgoeiflddikihaaGreatDoorCsoM3
import Derived.Test.YtgoeiflddikihaaGreatDoorCsoM10
import Derived.Test.YtgoeiflddikihaaGreatDoorCsoM8
import Derived.RegionTactic
import Derived.BigRegion
import Derived.WalkLawsBesides
import Derived.Laws.OwnMore
import Derived.Laws.Tables
import Derived.Laws.CopyOwn
import Derived.Deep.MidRow
import Derived.Great.BuildSlice
import Derived.Test.YtgoeiflddikihaaGreatDoorCsoM2
import Derived.Test.YtgoeiflddikihaaGreatDoorCsoM6
import Derived.Lib.QuietBelow
section
namespace Go.Proofs.YtgoeiflddikihaaGreatDoor.Ver
set_option linter.unusedSimpArgs false
set_option linter.unusedVariables false
open Go.RowKit Go.Proofs.YtgoeiflddikihaaGreatDoorW.PrintWords Go.Proofs.YtgoeiflddikihaaGreatDoor.Mem Go.Proofs.YtgoeiflddikihaaGreatDoor.Ord
structure PD where
  lo : SV
  hi : SV
  hl : Bool
  hh : Bool
  wl : Bool
  wh : Bool
  but : List SV
def zVd : SV := ⟨0, 0, 0, ⟨#[]⟩, ⟨#[]⟩, ⟨#[]⟩⟩
def zPD : PD := ⟨zVd, zVd, false, false, false, false, []⟩
def lowOk (p : PD) (v : SV) : Bool := !(p.hl && (decide (cmpV v p.lo < 0) || (cmpV v p.lo == 0 && !p.wl)))
def highOk (p : PD) (v : SV) : Bool := !(p.hh && (decide (0 < cmpV v p.hi) || (cmpV v p.hi == 0 && !p.wh)))
def butOk (l : List SV) (v : SV) : Bool := l.all (fun x => !(cmpV x v == 0))
def hasD (p : PD) (v : SV) : Bool := lowOk p v && (highOk p v && butOk p.but v)
def emptyD (p : PD) : Bool := p.hl && (p.hh && (decide (0 < cmpV p.lo p.hi) || (cmpV p.lo p.hi == 0 && (!p.wl || (!p.wh || !hasD p p.lo)))))
def bothL (p q : PD) : PD := if q.hl then (if p.hl = false ∨ 0 < cmpV q.lo p.lo then { p with lo := q.lo, hl := true, wl := q.wl } else if cmpV q.lo p.lo = 0 then { p with wl := p.wl && q.wl } else p) else p
def bothH (p q : PD) : PD := if q.hh then (if p.hh = false ∨ cmpV q.hi p.hi < 0 then { p with hi := q.hi, hh := true, wh := q.wh } else if cmpV q.hi p.hi = 0 then { p with wh := p.wh && q.wh } else p) else p
def keepB (r : PD) : List SV → List SV → List SV
  | acc, [] => acc
  | acc, v :: l => keepB r (if hasD { r with but := acc } v then acc ++ [v] else acc) l
def bothD (p q : PD) : PD := { bothH (bothL p q) q with but := keepB (bothH (bothL p q) q) [] (p.but ++ q.but) }
structure PDok (p : PD) : Prop where
  lo : SVok p.lo
  hi : SVok p.hi
  but : ∀ x ∈ p.but, SVok x
theorem ok_z : SVok zVd := ⟨by decide, by decide, by decide, by decide, by decide, by decide, by decide, by decide⟩
theorem SVok.pre {v : SV} (h : SVok v) : v.pre.size ≤ 140737488351232 := Nat.le_trans h.p (by decide)
def cellsV (v : SV) : List Value := [.int .u64 v.major, .int .u64 v.minor, .int .u64 v.patch, .string v.pre, .string v.mt, .string v.orig]
def flatV (l : List SV) : List Value := l.flatMap cellsV
theorem flatV_app (a b : List SV) : flatV (a ++ b) = flatV a ++ flatV b := by unfold flatV; rw [List.flatMap_append]
theorem flatV_one : ∀ l : List SV, ∀ u ∈ flatV l, u.oneCell' = true := by
  intro l u hu
  obtain ⟨x, _, hx⟩ := List.mem_flatMap.1 hu
  simp [cellsV] at hx
  rcases hx with rfl | rfl | rfl | rfl | rfl | rfl <;> rfl
theorem flatV_at (l : List SV) (k : Nat) (h : k < l.length) : ((flatV l).drop (k * 6)).take 6 = cellsV l[k] := by
  induction l generalizing k with
  | nil => simp at h
  | cons x l ih =>
    have e : flatV (x :: l) = cellsV x ++ flatV l := rfl
    cases k with
    | zero => rw [e]; rfl
    | succ k =>
      have h2 : (k + 1) * 6 = (cellsV x).length + k * 6 := by show _ = 6 + _; omega
      rw [e, h2, ← List.drop_drop, List.drop_left]
      simpa using ih k (by simpa using h)
abbrev VsAt (w : World) (base : Nat) (v : Value) (l : List SV) : Prop := w.ownsRow base 197 6 v l.length (flatV l)
def pcl (p : PD) (bv : Value) : List Value := [.int .u64 p.lo.major, .int .u64 p.lo.minor, .int .u64 p.lo.patch, .string p.lo.pre, .string p.lo.mt, .string p.lo.orig, .int .u64 p.hi.major, .int .u64 p.hi.minor, .int .u64 p.hi.patch, .string p.hi.pre, .string p.hi.mt, .string p.hi.orig, .bool p.hl, .bool p.hh, .bool p.wl, .bool p.wh, bv]
theorem pcl_len (p : PD) (bv : Value) : (pcl p bv).length = 17 := rfl
theorem pcl_one (p : PD) {bv : Value} (h : bv.oneCell' = true) : ∀ u ∈ pcl p bv, u.oneCell' = true := by
  intro u hu
  simp [pcl] at hu
  rcases hu with rfl | rfl | rfl | rfl | rfl | rfl | rfl | rfl | rfl | rfl | rfl | rfl | rfl | rfl | rfl | rfl | rfl
  all_goals first | rfl | exact h
theorem row_one {w : World} {base : Nat} {e : TypeId} {sz n : Nat} {v : Value} {xs : List Value} (h : w.ownsRow base e sz v n xs) : v.oneCell' = true := by
  obtain ⟨A, c, rfl, _⟩ := row_val h; rfl
inductive PRep (w : World) (base : Nat) : List Value → List PD → Prop
  | nil : PRep w base [] []
  | cons {p : PD} {bv : Value} {xs : List Value} {l : List PD} (h : VsAt w base bv p.but) (t : PRep w base xs l) : PRep w base (pcl p bv ++ xs) (p :: l)
theorem PRep.keep {w w' : World} {base : Nat} {xs : List Value} {l : List PD} (h : PRep w base xs l) (hb : Below w.heap.size w w') : PRep w' base xs l := by
  induction h with
  | nil => exact PRep.nil
  | cons h _ ih => exact PRep.cons (row_keep h hb) ih
theorem PRep.mono {w : World} {base base' : Nat} {xs : List Value} {l : List PD} (h : PRep w base xs l) (hb : base' ≤ base) : PRep w base' xs l := by
  induction h with
  | nil => exact PRep.nil
  | cons h _ ih => exact PRep.cons (h.mono hb) ih
theorem PRep.len {w : World} {base : Nat} {xs : List Value} {l : List PD} (h : PRep w base xs l) : xs.length = l.length * 17 := by
  induction h with
  | nil => rfl
  | cons _ _ ih => rw [List.length_append, ih, List.length_cons, pcl_len]; omega
theorem PRep.one {w : World} {base : Nat} {xs : List Value} {l : List PD} (h : PRep w base xs l) : ∀ u ∈ xs, u.oneCell' = true := by
  induction h with
  | nil => intro u hu; cases hu
  | cons h _ ih =>
    intro u hu
    rcases List.mem_append.1 hu with hu | hu
    · exact pcl_one _ (row_one h) u hu
    · exact ih u hu
theorem PRep.app {w : World} {base : Nat} {xs ys : List Value} {l m : List PD} (h : PRep w base xs l) (k : PRep w base ys m) : PRep w base (xs ++ ys) (l ++ m) := by
  induction h with
  | nil => exact k
  | cons h _ ih => rw [List.append_assoc]; exact PRep.cons h ih
theorem PRep.snoc {w : World} {base : Nat} {xs : List Value} {l : List PD} {p : PD} {bv : Value} (h : PRep w base xs l) (k : VsAt w base bv p.but) : PRep w base (xs ++ pcl p bv) (l ++ [p]) := by
  have := h.app (PRep.cons k PRep.nil)
  rwa [List.append_nil] at this
theorem PRep.get {w : World} {base : Nat} {xs : List Value} {l : List PD} (h : PRep w base xs l) : ∀ (k : Nat) (hk : k < l.length), ∃ bv, (xs.drop (k * 17)).take 17 = pcl l[k] bv ∧ VsAt w 0 bv l[k].but := by
  induction h with
  | nil => intro k hk; simp at hk
  | cons h _ ih =>
    rename_i p bv xs l _
    intro k hk
    cases k with
    | zero => exact ⟨bv, by rfl, h.mono (Nat.zero_le _)⟩
    | succ k =>
      obtain ⟨bv2, h2, h3⟩ := ih k (by simpa using hk)
      refine ⟨bv2, ?_, h3⟩
      have e : (k + 1) * 17 = (pcl p bv).length + k * 17 := by rw [pcl_len]; omega
      rw [e, ← List.drop_drop, List.drop_left]
      exact h2
def RngAt (w : World) (base : Nat) (v : Value) (l : List PD) : Prop := ∃ xs, w.ownsRow base 242 17 v l.length xs ∧ PRep w base xs l
theorem RngAt.below {w w' : World} {base : Nat} {v : Value} {l : List PD} (h : RngAt w base v l) (hb : Below w.heap.size w w') : RngAt w' base v l := by
  obtain ⟨xs, h1, h2⟩ := h
  exact ⟨xs, row_keep h1 hb, h2.keep hb⟩
theorem RngAt.mono {w : World} {base base' : Nat} {v : Value} {l : List PD} (h : RngAt w base v l) (hb : base' ≤ base) : RngAt w base' v l := by
  obtain ⟨xs, h1, h2⟩ := h
  exact ⟨xs, h1.mono hb, h2.mono hb⟩
theorem RngAt.nil (w : World) (base : Nat) : RngAt w base (.slice none 0 0) [] := ⟨[], World.ownsRow_nil _ _ _ _, PRep.nil⟩
theorem RngAt.val {w : World} {base : Nat} {v : Value} {l : List PD} (h : RngAt w base v l) : ∃ A c, v = .slice A l.length c := by
  obtain ⟨xs, h1, _⟩ := h
  obtain ⟨A, c, rfl, _⟩ := row_val h1
  exact ⟨A, c, rfl⟩
theorem RngAt.get {w : World} {base : Nat} {v : Value} {l : List PD} (h : RngAt w base v l) {k : Nat} (hk : k < l.length) :
    ∃ g c bv, v = .slice (some ⟨g, 0, none⟩) l.length c ∧ w.rangeAt g (k * 17) (pcl l[k] bv) ∧ VsAt w 0 bv l[k].but := by
  obtain ⟨xs, h1, h2⟩ := h
  obtain ⟨g, c, rfl, h3⟩ := row_at h1 hk
  obtain ⟨bv, h4, h5⟩ := h2.get k hk
  exact ⟨g, c, bv, rfl, by rw [← h4]; exact h3, h5⟩
theorem VsAt.get {w : World} {base : Nat} {v : Value} {l : List SV} (h : VsAt w base v l) {k : Nat} (hk : k < l.length) :
    ∃ g c, v = .slice (some ⟨g, 0, none⟩) l.length c ∧ w.rangeAt g (k * 6) (cellsV l[k]) := by
  obtain ⟨g, c, rfl, h3⟩ := row_at h hk
  rw [flatV_at l k hk] at h3
  exact ⟨g, c, rfl, h3⟩
abbrev zPc : Array Value := #[.int .u64 0, .int .u64 0, .int .u64 0, .string ⟨#[]⟩, .string ⟨#[]⟩, .string ⟨#[]⟩, .int .u64 0, .int .u64 0, .int .u64 0, .string ⟨#[]⟩, .string ⟨#[]⟩, .string ⟨#[]⟩, .bool false, .bool false, .bool false, .bool false, .slice none 0 0]
instance pdI1 : RowC Tryz.prog 242 17 := ⟨⟨_, Tryz.underlying242, rfl⟩, by kernel_rfl⟩
instance pdI2 : RowC Tryz.prog 197 6 := ⟨⟨_, Tryz.underlying197, rfl⟩, by kernel_rfl⟩
instance pdI3 : RowC Tryz.prog 238 1 := ⟨⟨_, Tryz.underlying238, rfl⟩, by kernel_rfl⟩
instance pdI4 : OneC Tryz.prog 4 := ⟨⟨_, Tryz.underlying4, rfl⟩, by kernel_rfl⟩
instance pdI5 : OneC Tryz.prog 240 := ⟨⟨_, Tryz.underlying240, rfl⟩, by kernel_rfl⟩
instance pdI6 : OneC Tryz.prog 236 := ⟨⟨_, Tryz.underlying236, rfl⟩, by kernel_rfl⟩
instance pdI7 : ZeroC Tryz.prog 242 zPc := ⟨by kernel_rfl⟩
instance pdI8 : ZeroC Tryz.prog 197 zSV := ⟨by kernel_rfl⟩
instance pdI9 : ZeroC Tryz.prog 238 #[.slice none 0 0] := ⟨by kernel_rfl⟩
instance pdI10 : SlcC Tryz.prog 236 17 := ⟨⟨_, Tryz.underlying236, by kernel_rfl⟩⟩
instance pdI11 : SlcC Tryz.prog 240 6 := ⟨⟨_, Tryz.underlying240, by kernel_rfl⟩⟩
theorem infoPc : (Tryz.prog.info? 242).map (fun i => (i.zero, i.size, i.bytes)) = some (some (.agg zPc), 17, 176) := by kernel_rfl
theorem infoSv : (Tryz.prog.info? 197).map (fun i => (i.zero, i.size, i.bytes)) = some (some (.agg zSV), 6, 72) := by kernel_rfl
theorem wrap_step {k n : Nat} (h : k < n) (hn : n ≤ maxLen) : wrap64 ((k : Int) + 1) = ((k + 1 : Nat) : Int) := by
  unfold maxLen at hn
  rw [wrap_in (by omega) (by omega)]; omega
theorem meas_step {k n : Nat} (h : k < n) : n - (intOf (.int .i64 ((k + 1 : Nat) : Int))).toNat < n - (intOf (.int .i64 (k : Int))).toNat := by
  show n - (((k + 1 : Nat) : Int)).toNat < n - ((k : Int)).toNat
  omega
section
variable {P : Program} {ops : Array Oper} {rest : List Oper} {a : Act} {w : World} {Q : Exit → Act → World → Prop} {d : Option Tmp} {tt : TypeId} {pos : String} {af : Array Edge}
theorem m_loadr {ty : TypeId} {x : Operand} {b o n : Nat} {vs : List Value} (hr : w.rangeAt b o vs) (hx : a.eval x = .pointer (some ⟨b, o, none⟩) := by rfl) [ht : RowC P ty n] (hn : vs.length = n := by rfl) (h : wpList P ops Q rest (a.put d (.agg vs.toArray)) w) :
    wpList P ops Q (⟨d, .load ty x, tt, pos, af, none⟩ :: rest) a w := by
  obtain ⟨td, hu, hd⟩ := ht.out.row
  exact wpList_load_mid (op := ⟨d, .load ty x, tt, pos, af, none⟩) rfl ty x rfl b o hx vs td hr hu hd (by rw [ht.out.size, hn]) h
end
end Go.Proofs.YtgoeiflddikihaaGreatDoor.Ver
end
section
namespace Go.Proofs.YtgoeiflddikihaaGreatDoor.Ver
open Go.RowKit
theorem c_rev_rev (v : Value) (xT : TypeId) (w : World) : (Instr.typeAssert (.iface 135 v) xT 135 true).run Tryz.prog w = .ok (.tuple #[v, .bool true]) w := by kernel_rfl
theorem c_rev_branch (v : Value) (xT : TypeId) (w : World) : (Instr.typeAssert (.iface 135 v) xT 215 true).run Tryz.prog w = .ok (.tuple #[.agg #[.string ⟨#[]⟩, .bool false], .bool false]) w := by kernel_rfl
theorem c_rev_plain (v : Value) (xT : TypeId) (w : World) : (Instr.typeAssert (.iface 135 v) xT 224 true).run Tryz.prog w = .ok (.tuple #[.string ⟨#[]⟩, .bool false]) w := by kernel_rfl
theorem c_rev_sem (v : Value) (xT : TypeId) (w : World) : (Instr.typeAssert (.iface 135 v) xT 200 true).run Tryz.prog w = .ok (.tuple #[.agg zSV, .bool false]) w := by kernel_rfl
theorem c_rev_pair (v : Value) (xT : TypeId) (w : World) : (Instr.typeAssert (.iface 135 v) xT 212 true).run Tryz.prog w = .ok (.tuple #[.agg #[.nilIface, .string ⟨#[]⟩], .bool false]) w := by kernel_rfl
theorem c_branch_rev (v : Value) (xT : TypeId) (w : World) : (Instr.typeAssert (.iface 215 v) xT 135 true).run Tryz.prog w = .ok (.tuple #[.string ⟨#[]⟩, .bool false]) w := by kernel_rfl
theorem c_branch_branch (v : Value) (xT : TypeId) (w : World) : (Instr.typeAssert (.iface 215 v) xT 215 true).run Tryz.prog w = .ok (.tuple #[v, .bool true]) w := by kernel_rfl
theorem c_branch_plain (v : Value) (xT : TypeId) (w : World) : (Instr.typeAssert (.iface 215 v) xT 224 true).run Tryz.prog w = .ok (.tuple #[.string ⟨#[]⟩, .bool false]) w := by kernel_rfl
theorem c_branch_sem (v : Value) (xT : TypeId) (w : World) : (Instr.typeAssert (.iface 215 v) xT 200 true).run Tryz.prog w = .ok (.tuple #[.agg zSV, .bool false]) w := by kernel_rfl
theorem c_branch_pair (v : Value) (xT : TypeId) (w : World) : (Instr.typeAssert (.iface 215 v) xT 212 true).run Tryz.prog w = .ok (.tuple #[.agg #[.nilIface, .string ⟨#[]⟩], .bool false]) w := by kernel_rfl
theorem c_plain_rev (v : Value) (xT : TypeId) (w : World) : (Instr.typeAssert (.iface 224 v) xT 135 true).run Tryz.prog w = .ok (.tuple #[.string ⟨#[]⟩, .bool false]) w := by kernel_rfl
theorem c_plain_branch (v : Value) (xT : TypeId) (w : World) : (Instr.typeAssert (.iface 224 v) xT 215 true).run Tryz.prog w = .ok (.tuple #[.agg #[.string ⟨#[]⟩, .bool false], .bool false]) w := by kernel_rfl
theorem c_plain_plain (v : Value) (xT : TypeId) (w : World) : (Instr.typeAssert (.iface 224 v) xT 224 true).run Tryz.prog w = .ok (.tuple #[v, .bool true]) w := by kernel_rfl
theorem c_plain_sem (v : Value) (xT : TypeId) (w : World) : (Instr.typeAssert (.iface 224 v) xT 200 true).run Tryz.prog w = .ok (.tuple #[.agg zSV, .bool false]) w := by kernel_rfl
theorem c_plain_pair (v : Value) (xT : TypeId) (w : World) : (Instr.typeAssert (.iface 224 v) xT 212 true).run Tryz.prog w = .ok (.tuple #[.agg #[.nilIface, .string ⟨#[]⟩], .bool false]) w := by kernel_rfl
theorem c_sem_rev (v : Value) (xT : TypeId) (w : World) : (Instr.typeAssert (.iface 200 v) xT 135 true).run Tryz.prog w = .ok (.tuple #[.string ⟨#[]⟩, .bool false]) w := by kernel_rfl
theorem c_sem_branch (v : Value) (xT : TypeId) (w : World) : (Instr.typeAssert (.iface 200 v) xT 215 true).run Tryz.prog w = .ok (.tuple #[.agg #[.string ⟨#[]⟩, .bool false], .bool false]) w := by kernel_rfl
theorem c_sem_plain (v : Value) (xT : TypeId) (w : World) : (Instr.typeAssert (.iface 200 v) xT 224 true).run Tryz.prog w = .ok (.tuple #[.string ⟨#[]⟩, .bool false]) w := by kernel_rfl
theorem c_sem_sem (v : Value) (xT : TypeId) (w : World) : (Instr.typeAssert (.iface 200 v) xT 200 true).run Tryz.prog w = .ok (.tuple #[v, .bool true]) w := by kernel_rfl
theorem c_sem_pair (v : Value) (xT : TypeId) (w : World) : (Instr.typeAssert (.iface 200 v) xT 212 true).run Tryz.prog w = .ok (.tuple #[.agg #[.nilIface, .string ⟨#[]⟩], .bool false]) w := by kernel_rfl
theorem c_pair_rev (v : Value) (xT : TypeId) (w : World) : (Instr.typeAssert (.iface 212 v) xT 135 true).run Tryz.prog w = .ok (.tuple #[.string ⟨#[]⟩, .bool false]) w := by kernel_rfl
theorem c_pair_sem (v : Value) (xT : TypeId) (w : World) : (Instr.typeAssert (.iface 212 v) xT 200 true).run Tryz.prog w = .ok (.tuple #[.agg zSV, .bool false]) w := by kernel_rfl
theorem c_pair_pair (v : Value) (xT : TypeId) (w : World) : (Instr.typeAssert (.iface 212 v) xT 212 true).run Tryz.prog w = .ok (.tuple #[v, .bool true]) w := by kernel_rfl
theorem c_sv_sv (v : Value) (xT : TypeId) (w : World) : (Instr.typeAssert (.iface 197 v) xT 197 true).run Tryz.prog w = .ok (.tuple #[v, .bool true]) w := by kernel_rfl
theorem c_range_sv (v : Value) (xT : TypeId) (w : World) : (Instr.typeAssert (.iface 238 v) xT 197 true).run Tryz.prog w = .ok (.tuple #[.agg zSV, .bool false]) w := by kernel_rfl
theorem c_range_range (v : Value) (xT : TypeId) (w : World) : (Instr.typeAssert (.iface 238 v) xT 238 true).run Tryz.prog w = .ok (.tuple #[v, .bool true]) w := by kernel_rfl
end Go.Proofs.YtgoeiflddikihaaGreatDoor.Ver
end
section
namespace Go.Proofs.YtgoeiflddikihaaGreatDoor.Ver
set_option linter.unusedSimpArgs false
open Go.RowKit Go.Proofs.YtgoeiflddikihaaGreatDoor.Dig Go.Proofs.YtgoeiflddikihaaGreatDoorW.PrintWords Go.Proofs.YtgoeiflddikihaaGreatDoor.Mem
theorem rowV : RowT Tryz.prog 197 6 := ⟨⟨_, Tryz.underlying197, rfl⟩, by kernel_rfl⟩
theorem rowP : RowT Tryz.prog 242 17 := ⟨⟨_, Tryz.underlying242, rfl⟩, by kernel_rfl⟩
theorem oneB : OneT Tryz.prog 4 := ⟨⟨_, Tryz.underlying4, rfl⟩, by kernel_rfl⟩
end Go.Proofs.YtgoeiflddikihaaGreatDoor.Ver
end
section
namespace Go.Proofs.YtgoeiflddikihaaGreatDoor.Ver
open Go.RowKit Go.Proofs.YtgoeiflddikihaaGreatDoorW.PrintWords Go.Proofs.YtgoeiflddikihaaGreatDoor.Ord
set_option maxHeartbeats 2000000 in
theorem cvt_any (l r : Vers) (hl : l.bare = l) (hr : r.bare = r) (w : World) :
    Calls Tryz.prog 205 #[l.val, r.val] w fun e w' => e = .returned (.int .i64 (natC l.rank r.rank)) ∧ Below w.heap.size w w' := by
  have c_rev_rev := c_rev_rev
  have c_rev_plain := c_rev_plain
  have c_rev_branch := c_rev_branch
  have c_rev_sem := c_rev_sem
  have c_plain_rev := c_plain_rev
  have c_plain_plain := c_plain_plain
  have c_plain_branch := c_plain_branch
  have c_plain_sem := c_plain_sem
  have c_branch_rev := c_branch_rev
  have c_branch_plain := c_branch_plain
  have c_branch_branch := c_branch_branch
  have c_branch_sem := c_branch_sem
  have c_sem_rev := c_sem_rev
  have c_sem_plain := c_sem_plain
  have c_sem_branch := c_sem_branch
  have c_sem_sem := c_sem_sem
  have HB := Aside0.mk (Below.refl w.heap.size w)
  rcases l with s | (⟨n, d⟩ | s | v) | ⟨u, x⟩
  all_goals first | (exfalso; cases hl; done) | skip
  all_goals
    rcases r with s' | (⟨n', d'⟩ | s' | v') | ⟨u, x⟩
    all_goals first | (exfalso; cases hr; done) | skip
    all_goals
      clear hl hr
      dsimp only [Vers.val, Vers.tid, Vers.inner, Unp.val, Unp.tid, Unp.inner, SV.cells, Vers.rank, Unp.rank]
      go_enter Tryz.func205, Tryz.ntmps205
      go_wp2_with fail
      go_ret
      exact ⟨rfl, by repeat (first | exact HB.out | apply below_alloc | apply pw_below_drewN)⟩
theorem p_branch (v : Value) (xT : TypeId) (w : World) : (Instr.typeAssert (.iface 215 v) xT 215 false).run Tryz.prog w = .ok v w := by kernel_rfl
theorem p_sem (v : Value) (xT : TypeId) (w : World) : (Instr.typeAssert (.iface 200 v) xT 200 false).run Tryz.prog w = .ok v w := by kernel_rfl
theorem bare_bare (l : Vers) : l.bare.bare = l.bare := by rcases l with _ | _ | _ <;> rfl
theorem cvt_at (l r : Vers) {k : Int} (hk : natC l.rank r.rank = k) (w : World) :
    Calls Tryz.prog 205 #[l.bare.val, r.bare.val] w fun e w' => e = .returned (.int .i64 k) ∧ Below w.heap.size w w' := by
  have h := cvt_any l.bare r.bare (bare_bare l) (bare_bare r) w
  have e1 : l.bare.rank = l.rank := by rcases l with s | u | ⟨u, x⟩ <;> rfl
  have e2 : r.bare.rank = r.rank := by rcases r with s | u | ⟨u, x⟩ <;> rfl
  rw [e1, e2, hk] at h
  exact h
set_option maxRecDepth 20000 in
set_option maxHeartbeats 8000000 in
theorem vless_rank (l r : Vers) (down : Bool) (hne : l.rank ≠ r.rank) (w : World) :
    Calls Tryz.prog 204 #[l.val, r.val, .bool down] w fun e w' => e = .returned (.bool (lessV down l r)) ∧ Below w.heap.size w w' := by
  have HB := Aside0.mk (Below.refl w.heap.size w)
  rw [less_rank hne]
  have cp1 := c_rev_pair
  have cp2 := c_branch_pair
  have cp3 := c_plain_pair
  have cp4 := c_sem_pair
  have cp5 := c_pair_pair
  rcases Nat.lt_or_gt_of_ne hne with hlt | hgt
  · have HC := Lib.hid (fun W => cvt_at l r (k := -1) (by unfold natC; rw [if_pos hlt]) W)
    rw [decide_eq_true hlt]
    rcases l with s | (⟨n, d⟩ | s | v) | ⟨(⟨n, d⟩ | s | v), x⟩
    all_goals
      rcases r with s' | (⟨n', d'⟩ | s' | v') | ⟨(⟨n', d'⟩ | s' | v'), x'⟩
      all_goals first | (exfalso; simp [Vers.rank, Unp.rank] at hlt; done) | skip
      all_goals
        clear hlt hne
        dsimp only [Vers.val, Vers.tid, Vers.inner, Unp.val, Unp.tid, Unp.inner, SV.cells, Vers.bare] at HC ⊢
        go_enter Tryz.func204, Tryz.ntmps204
        go_wp2_with (first
          | (go_at_call 205; ((with_reducible refine (HC.out _).mono ?_); rintro e w1 ⟨rfl, hb⟩; have HB5 := Aside0.mk (below_trans (by repeat (first | exact HB.out | apply below_alloc | apply pw_below_drewN | refine below_set ?_ (by first | exact Nat.le_refl _ | (simp; done) | (simp; omega)))) hb); clear hb)))
        go_ret
        exact ⟨rfl, by repeat (first | exact HB5.out | apply below_alloc | apply pw_below_drewN)⟩
  · have HC := Lib.hid (fun W => cvt_at l r (k := 1) (by unfold natC; rw [if_neg (by omega), if_pos hgt]) W)
    rw [decide_eq_false (by omega)]
    rcases l with s | (⟨n, d⟩ | s | v) | ⟨(⟨n, d⟩ | s | v), x⟩
    all_goals
      rcases r with s' | (⟨n', d'⟩ | s' | v') | ⟨(⟨n', d'⟩ | s' | v'), x'⟩
      all_goals first | (exfalso; simp [Vers.rank, Unp.rank] at hgt; done) | skip
      all_goals
        clear hgt hne
        dsimp only [Vers.val, Vers.tid, Vers.inner, Unp.val, Unp.tid, Unp.inner, SV.cells, Vers.bare] at HC ⊢
        go_enter Tryz.func204, Tryz.ntmps204
        go_wp2_with (first
          | (go_at_call 205; ((with_reducible refine (HC.out _).mono ?_); rintro e w1 ⟨rfl, hb⟩; have HB5 := Aside0.mk (below_trans (by repeat (first | exact HB.out | apply below_alloc | apply pw_below_drewN | refine below_set ?_ (by first | exact Nat.le_refl _ | (simp; done) | (simp; omega)))) hb); clear hb)))
        go_ret
        exact ⟨rfl, by repeat (first | exact HB5.out | apply below_alloc | apply pw_below_drewN)⟩
end Go.Proofs.YtgoeiflddikihaaGreatDoor.Ver
end
section
namespace Go.Proofs.YtgoeiflddikihaaGreatDoor.Ver
set_option linter.unusedSimpArgs false
open Go.RowKit Go.Proofs.YtgoeiflddikihaaGreatDoor.Dig Go.Proofs.YtgoeiflddikihaaGreatDoorW.PrintWords
theorem a_rev_U (v : Value) (xT : TypeId) (w : World) : (Instr.typeAssert (.iface 135 v) xT 138 true).run Tryz.prog w = .ok (.tuple #[.nilIface, .bool false]) w := run_typeAssert_lacksB Tryz.underlying138 (by kernel_rfl) (by kernel_rfl) v xT w
theorem a_rev_P (v : Value) (xT : TypeId) (w : World) : (Instr.typeAssert (.iface 135 v) xT 133 true).run Tryz.prog w = .ok (.tuple #[.nilIface, .bool false]) w := run_typeAssert_lacksB Tryz.underlying133 (by kernel_rfl) (by kernel_rfl) v xT w
theorem a_branch_U (v : Value) (xT : TypeId) (w : World) : (Instr.typeAssert (.iface 215 v) xT 138 true).run Tryz.prog w = .ok (.tuple #[.iface 215 v, .bool true]) w := run_typeAssert_hasB Tryz.underlying138 (by kernel_rfl) v xT w
theorem a_branch_P (v : Value) (xT : TypeId) (w : World) : (Instr.typeAssert (.iface 215 v) xT 133 true).run Tryz.prog w = .ok (.tuple #[.nilIface, .bool false]) w := run_typeAssert_lacksB Tryz.underlying133 (by kernel_rfl) (by kernel_rfl) v xT w
theorem a_plain_U (v : Value) (xT : TypeId) (w : World) : (Instr.typeAssert (.iface 224 v) xT 138 true).run Tryz.prog w = .ok (.tuple #[.iface 224 v, .bool true]) w := run_typeAssert_hasB Tryz.underlying138 (by kernel_rfl) v xT w
theorem a_plain_P (v : Value) (xT : TypeId) (w : World) : (Instr.typeAssert (.iface 224 v) xT 133 true).run Tryz.prog w = .ok (.tuple #[.nilIface, .bool false]) w := run_typeAssert_lacksB Tryz.underlying133 (by kernel_rfl) (by kernel_rfl) v xT w
theorem a_sem_U (v : Value) (xT : TypeId) (w : World) : (Instr.typeAssert (.iface 200 v) xT 138 true).run Tryz.prog w = .ok (.tuple #[.iface 200 v, .bool true]) w := run_typeAssert_hasB Tryz.underlying138 (by kernel_rfl) v xT w
theorem a_sem_P (v : Value) (xT : TypeId) (w : World) : (Instr.typeAssert (.iface 200 v) xT 133 true).run Tryz.prog w = .ok (.tuple #[.nilIface, .bool false]) w := run_typeAssert_lacksB Tryz.underlying133 (by kernel_rfl) (by kernel_rfl) v xT w
theorem a_pair_U (v : Value) (xT : TypeId) (w : World) : (Instr.typeAssert (.iface 212 v) xT 138 true).run Tryz.prog w = .ok (.tuple #[.nilIface, .bool false]) w := run_typeAssert_lacksB Tryz.underlying138 (by kernel_rfl) (by kernel_rfl) v xT w
theorem a_pair_P (v : Value) (xT : TypeId) (w : World) : (Instr.typeAssert (.iface 212 v) xT 133 true).run Tryz.prog w = .ok (.tuple #[.iface 212 v, .bool true]) w := run_typeAssert_hasB Tryz.underlying133 (by kernel_rfl) v xT w
def Unp.ty : Unp → Int
  | .branch _ _ => 3
  | .plain _ => 1
  | .sem _ => 2
def Unp.text : Unp → ByteArray
  | .branch n _ => n
  | .plain n => n
  | .sem v => if v.orig = ⟨#[]⟩ then semB v else v.orig
def Unp.caret : Unp → ByteArray
  | .branch n _ => n
  | .plain n => n
  | .sem v => ⟨#[61]⟩ ++ semB v
def Vers.unp : Vers → Option Unp
  | .rev _ => none
  | .un u => some u
  | .pair u _ => some u
def Vers.ty (v : Vers) : Int := match v.unp with
  | none => 0
  | some u => u.ty
def Vers.text : Vers → ByteArray
  | .rev s => s
  | .un u => u.text
  | .pair u _ => u.text
def Vers.caret : Vers → ByteArray
  | .rev s => s
  | .un u => u.caret
  | .pair u _ => u.caret
def Vers.revision : Vers → ByteArray
  | .rev s => s
  | .un _ => ⟨#[]⟩
  | .pair _ r => r
set_option maxRecDepth 20000 in
theorem comp_psem (v : SV) (ho : v.orig ≠ ⟨#[]⟩) (r : ByteArray) (w : World) : Calls Tryz.prog 75 #[(Vers.pair (.sem v) r).val] w fun e w' => e = .returned (.tuple #[.string r, .string ⟨#[]⟩, .string v.orig]) ∧ Below w.heap.size w w' := by
  have c0 := c_sem_rev
  have c1 := c_pair_rev
  have h0 := a_rev_U
  have h1 := a_rev_P
  have h2 := a_branch_U
  have h3 := a_branch_P
  have h4 := a_plain_U
  have h5 := a_plain_P
  have h6 := a_sem_U
  have h7 := a_sem_P
  have h8 := a_pair_U
  have h9 := a_pair_P
  have g0 := m_sem_Type
  have g1 := m_sem_String
  have g2 := m_pair_Type
  have g3 := m_pair_String
  have g4 := m_pair_Revision
  obtain ⟨va, vb, vc, vp, vm, vo⟩ := v
  have e1 : vo.toList.isEmpty = false := isEmpty_false (size_pos ho)
  clear ho
  dsimp only [Vers.val, Vers.tid, Vers.inner, Unp.val, Unp.tid, Unp.inner, SV.cells]
  go_enter Tryz.func75, Tryz.ntmps75
  go_wp2
  go_ret3
  exact ⟨rfl, by repeat (first | exact Below.refl _ _ | apply below_alloc | apply pw_below_drewN)⟩
end Go.Proofs.YtgoeiflddikihaaGreatDoor.Ver
end
section
namespace Go.Proofs.YtgoeiflddikihaaGreatDoor.Ver
set_option linter.unusedSimpArgs false
open Go.RowKit Go.Proofs.YtgoeiflddikihaaGreatDoor.Dig Go.Proofs.YtgoeiflddikihaaGreatDoorW.PrintWords Go.Proofs.YtgoeiflddikihaaGreatDoor.Mem
theorem rowR : RowT Tryz.prog 238 1 := ⟨⟨_, Tryz.underlying238, rfl⟩, by kernel_rfl⟩
theorem oneS : OneT Tryz.prog 9 := ⟨⟨_, Tryz.underlying9, rfl⟩, by kernel_rfl⟩
theorem oneSl : OneT Tryz.prog 236 := ⟨⟨_, Tryz.underlying236, rfl⟩, by kernel_rfl⟩
abbrev v2 : SV := ⟨2, 0, 0, ⟨#[]⟩, ⟨#[]⟩, ⟨#[]⟩⟩
end Go.Proofs.YtgoeiflddikihaaGreatDoor.Ver
end
section
namespace Go.Proofs.YtgoeiflddikihaaGreatDoor.Ver
open Go.RowKit Go.Proofs.YtgoeiflddikihaaGreatDoorW.PrintWords Go.Proofs.YtgoeiflddikihaaGreatDoor.Ord
set_option maxRecDepth 20000 in
set_option maxHeartbeats 8000000 in
theorem vless_name (l r : Vers) (down : Bool) (hr : l.rank = r.rank) (h2 : 2 ≤ l.rank) (w : World) :
    Calls Tryz.prog 204 #[l.val, r.val, .bool down] w fun e w' => e = .returned (.bool (lessV down l r)) ∧ Below w.heap.size w w' := by
  have HB := Aside0.mk (Below.refl w.heap.size w)
  rw [← less_bare]
  have HC := Lib.hid (fun W => cvt_at l r (k := 0) (by rw [hr]; exact cmp_nat.refl _) W)
  have c1 := c_rev_pair
  have c2 := c_branch_pair
  have c3 := c_plain_pair
  have c5 := c_pair_pair
  have c6 := c_rev_branch
  have c7 := c_rev_rev
  have c8 := c_rev_plain
  have c9 := c_plain_branch
  have c10 := c_plain_rev
  have c11 := c_plain_plain
  have m1 := m_rev_String
  have m2 := m_plain_String
  rcases l with s | (⟨n, d⟩ | s | v) | ⟨(⟨n, d⟩ | s | v), x⟩
  all_goals first | (exfalso; simp [Vers.rank, Unp.rank] at h2; done) | skip
  all_goals
    rcases r with s' | (⟨n', d'⟩ | s' | v') | ⟨(⟨n', d'⟩ | s' | v'), x'⟩
    all_goals first | (exfalso; simp [Vers.rank, Unp.rank] at hr; done) | skip
    all_goals
      clear h2 hr
      dsimp only [Vers.bare]
      first | rw [less_rev] | rw [less_plain]
      dsimp only [Vers.val, Vers.tid, Vers.inner, Unp.val, Unp.tid, Unp.inner, SV.cells, Vers.bare] at HC ⊢
      rw [← ByteArray.toList_eq, ← ByteArray.toList_eq]
      generalize hbl : Op.bytesLess _ _ = b
      go_enter Tryz.func204, Tryz.ntmps204
      go_wp2_with (first
        | (go_at_call 205; ((with_reducible refine (HC.out _).mono ?_); rintro e w1 ⟨rfl, hb⟩; have HB5 := Aside0.mk (below_trans (by repeat (first | exact HB.out | apply below_alloc | apply pw_below_drewN | refine below_set ?_ (by first | exact Nat.le_refl _ | (simp; done) | (simp; omega)))) hb); clear hb))
        | go_in)
      go_ret
      exact ⟨rfl, by repeat (first | exact HB5.out | apply below_alloc | apply pw_below_drewN)⟩
set_option maxRecDepth 20000 in
set_option maxHeartbeats 8000000 in
theorem vless_branch (l r : Vers) (down : Bool) (h1 : l.rank = 1) (h2 : r.rank = 1) (w : World) :
    Calls Tryz.prog 204 #[l.val, r.val, .bool down] w fun e w' => e = .returned (.bool (lessV down l r)) ∧ Below w.heap.size w w' := by
  have HB := Aside0.mk (Below.refl w.heap.size w)
  rw [← less_bare]
  have HC := Lib.hid (fun W => cvt_at l r (k := 0) (by rw [h1, h2]; exact cmp_nat.refl _) W)
  have c2 := c_branch_pair
  have c5 := c_pair_pair
  have c6 := c_branch_branch
  have c7 := p_branch
  have m1 := m_branch_String
  rcases l with s | (⟨n, d⟩ | s | v) | ⟨(⟨n, d⟩ | s | v), x⟩
  all_goals first | (exfalso; simp [Vers.rank, Unp.rank] at h1; done) | skip
  all_goals
    rcases r with s' | (⟨n', d'⟩ | s' | v') | ⟨(⟨n', d'⟩ | s' | v'), x'⟩
    all_goals first | (exfalso; simp [Vers.rank, Unp.rank] at h2; done) | skip
    all_goals
      clear h1 h2
      dsimp only [Vers.bare]
      rw [less_branch]
      dsimp only [Vers.val, Vers.tid, Vers.inner, Unp.val, Unp.tid, Unp.inner, SV.cells, Vers.bare] at HC ⊢
      rw [← ByteArray.toList_eq, ← ByteArray.toList_eq]
      generalize hbl : Op.bytesLess _ _ = b
      cases d <;> cases d'
      all_goals
        go_enter Tryz.func204, Tryz.ntmps204
        go_wp2_with (first
          | (go_at_call 205; ((with_reducible refine (HC.out _).mono ?_); rintro e w1 ⟨rfl, hb⟩; have HB5 := Aside0.mk (below_trans (by repeat (first | exact HB.out | apply below_alloc | apply pw_below_drewN | refine below_set ?_ (by first | exact Nat.le_refl _ | (simp; done) | (simp; omega)))) hb); clear hb))
          | go_in)
        go_ret
        exact ⟨rfl, by repeat (first | exact HB5.out | apply below_alloc | apply pw_below_drewN)⟩
end Go.Proofs.YtgoeiflddikihaaGreatDoor.Ver
end
