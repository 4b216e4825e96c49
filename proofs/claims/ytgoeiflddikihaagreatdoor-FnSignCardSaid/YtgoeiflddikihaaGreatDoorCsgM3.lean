/- Merged by program out of: Opens, Mem3, Opens4, Drawn, Row, PFnIntersectAnyx0, PFnVersionx0. -/
import Derived.Test.YtgoeiflddikihaaGreatDoorCsgM0
import Derived.ChangeArms
import Derived.DataReads
import Derived.Test.YtgoeiflddikihaaGreatDoorCsgM2
import Derived.Test.YtgoeiflddikihaaGreatDoorProg
import Derived.OpenShut
import Derived.WideShapes
import Derived.Deep.RegionHeld
import Derived.OrdersHeld
import Derived.Deep.AppendSrc
import Derived.Deep.Onto
import Derived.Deep.AppendLies
import Derived.Below
import Derived.Deep.Draws
import Derived.Maps.AppendAt
import Derived.OwnWalk
import Derived.Laws.BytesArg
import Derived.Laws.MakeOwn
import Derived.Laws.OwnMore
import Derived.Deep.OwnRows
import Derived.Tactics
import Derived.Lib.ConvBytes
import Derived.Laws.Slices
import Derived.WalkKit
import Derived.KernelRfl
import Derived.RowKit3
import Derived.Deep.LoopGhost
import Derived.Deep.QuietTactic
import Derived.BigQuiet
import Derived.WideLaws
import Derived.Deep.DeepCutAuto
import Derived.Deep.CutBlock
import Derived.Deep.RegionHeld3
import Derived.Laws.Rows
import Derived.Lib.AppendStr
import Derived.ArgAppend
import Derived.Laws.IdiomCopy
import Derived.Laws.BitsLemmas
import Derived.RowKit
import Derived.Test.YtgoeiflddikihaaGreatDoorCsgM1
section
namespace Go.Proofs.YtgoeiflddikihaaGreatDoor.Opens
open Go.RowKit Go.Proofs.YtgoeiflddikihaaGreatDoorW.PrintWords
def Opens {α : Type} (P : Program) (t : TypeId) (d : Kd α) (good : α → Prop) : Prop :=
  ∀ (H : Type) (enc : TypeId × Value → H) (w : World) (base : Nat) (spare : Nat → Bool) (held : Bool) (fuel : Nat) (cs : List Value) (x : DataW H × List MemPlace),
    DataW.trod enc P w base spare held fuel t cs = some x → ∃ a, d.K w a cs ∧ good a
theorem opens_int {P : Program} {t : TypeId} {k : IntKind} (ht : P.underlying t = some (.int k)) : Opens P t (Kd.int k) (fun n => (Lit.int k n).wf = true) := by
  intro H enc w base spare held fuel cs x h
  obtain ⟨n, rfl, _, hn⟩ := DataW.trod_int ht h
  exact ⟨n, rfl, hn⟩
end Go.Proofs.YtgoeiflddikihaaGreatDoor.Opens
end
section
namespace Go.Proofs.YtgoeiflddikihaaGreatDoor.Mem
open Go.RowKit Go.Proofs.YtgoeiflddikihaaGreatDoorW.PrintWords
class RowC (P : Program) (ty : TypeId) (n : outParam Nat) : Prop where out : RowT P ty n
class OneC (P : Program) (ty : TypeId) : Prop where out : OneT P ty
class ZeroC (P : Program) (ty : TypeId) (zs : outParam (Array Value)) : Prop where out : (P.info? ty).bind (fun i => i.zero.map (·.cells)) = some zs
class Plain (v : Value) : Prop where out : v.oneCell' = true
instance (b : Bool) : Plain (.bool b) := ⟨rfl⟩
instance (k : IntKind) (n : Int) : Plain (.int k n) := ⟨rfl⟩
instance (s : ByteArray) : Plain (.string s) := ⟨rfl⟩
instance (x : Option Addr) (n m : Nat) : Plain (.slice x n m) := ⟨rfl⟩
instance (t : TypeId) (v : Value) : Plain (.iface t v) := ⟨rfl⟩
instance : Plain .nilIface := ⟨rfl⟩
instance (x : Option Addr) : Plain (.pointer x) := ⟨rfl⟩
section ops
variable {P : Program} {ops : Array Oper} {rest : List Oper} {a : Act} {w0 w : World} {Q : Exit → Act → World → Prop} {L L' : List Blk}
variable {d : Option Tmp} {tt : TypeId} {pos : String} {af : Array Edge}
theorem m_load {ty : TypeId} {x : Operand} {b off n : Nat} {cs vs : List Value} {t : TypeId} (H : Blks w0 w L)
    (hx : a.eval x = .pointer (some ⟨b, off, none⟩) := by rfl) (hm : (b, cs, t) ∈ L := by repeat (first | exact List.Mem.head _ | apply List.Mem.tail))
    [ht : RowC P ty n] (hr : Rd cs off n vs := by repeat (first | exact Rd.nil | apply Rd.here | apply Rd.skip)) (h : wpList P ops Q rest (a.put d (.agg vs.toArray)) w) :
    wpList P ops Q (⟨d, .load ty x, tt, pos, af, none⟩ :: rest) a w := bk_load (o := ⟨d, .load ty x, tt, pos, af, none⟩) rfl rfl hx H hm ht.out hr h
theorem m_load1 {ty : TypeId} {x : Operand} {b off : Nat} {cs : List Value} {v : Value} {t : TypeId} (H : Blks w0 w L)
    (hx : a.eval x = .pointer (some ⟨b, off, none⟩) := by rfl) (hm : (b, cs, t) ∈ L := by repeat (first | exact List.Mem.head _ | apply List.Mem.tail))
    [ht : OneC P ty] (hr : Rd cs off 1 [v] := by repeat (first | exact Rd.nil | apply Rd.here | apply Rd.skip)) (h : wpList P ops Q rest (a.put d v) w) :
    wpList P ops Q (⟨d, .load ty x, tt, pos, af, none⟩ :: rest) a w := bk_load1 (o := ⟨d, .load ty x, tt, pos, af, none⟩) rfl rfl hx H hm ht.out hr h
theorem m_store {ty : TypeId} {x y : Operand} {b off n : Nat} {vs : Array Value} {cs cs' : List Value} {t : TypeId} (H : Blks w0 w L)
    (hx : a.eval x = .pointer (some ⟨b, off, none⟩) := by rfl) (hy : a.eval y = .agg vs := by rfl) [ht : RowC P ty n] (hn : vs.size = n := by rfl) (h1 : vs.all (·.oneCell') = true := by simp [Value.oneCell'])
    (hm : (b, cs, t) ∈ L := by repeat (first | exact List.Mem.head _ | apply List.Mem.tail)) (hw : Wr cs off vs.toList cs' := by repeat (first | exact Wr.nil | apply Wr.here | apply Wr.skip))
    (hu : Up L b cs t cs' L' := by repeat (first | exact Up.here | apply Up.skip)) (h : ∀ w', Aside0 (Blks w0 w' L') → wpList P ops Q rest a w') :
    wpList P ops Q (⟨none, .store ty x y, tt, pos, af, none⟩ :: rest) a w :=
  bk_store (o := ⟨none, .store ty x y, tt, pos, af, none⟩) rfl rfl rfl hx hy H ht.out hn h1 hm hw hu fun w' h' => h w' ⟨h'⟩
theorem m_store1 {ty : TypeId} {x y : Operand} {b off : Nat} {v : Value} {cs cs' : List Value} {t : TypeId} (H : Blks w0 w L)
    (hx : a.eval x = .pointer (some ⟨b, off, none⟩) := by rfl) (hy : a.eval y = v) [ht : OneC P ty] [h1 : Plain v]
    (hm : (b, cs, t) ∈ L := by repeat (first | exact List.Mem.head _ | apply List.Mem.tail)) (hw : Wr cs off [v] cs' := by repeat (first | exact Wr.nil | apply Wr.here | apply Wr.skip))
    (hu : Up L b cs t cs' L' := by repeat (first | exact Up.here | apply Up.skip)) (h : ∀ w', Aside0 (Blks w0 w' L') → wpList P ops Q rest a w') :
    wpList P ops Q (⟨none, .store ty x y, tt, pos, af, none⟩ :: rest) a w :=
  bk_store1 (o := ⟨none, .store ty x y, tt, pos, af, none⟩) rfl rfl rfl hx hy H ht.out h1.out hm hw hu fun w' h' => h w' ⟨h'⟩
theorem m_alloc {ty : TypeId} {zs : Array Value} (H : Blks w0 w L) [hz : ZeroC P ty zs]
    (h : ∀ (b : Nat) (w' : World), Aside0 (Blks w0 w' ((b, zs.toList, ty) :: L)) → wpList P ops Q rest (a.put d (.pointer (some ⟨b, 0, none⟩))) w') :
    wpList P ops Q (⟨d, .alloc ty, tt, pos, af, none⟩ :: rest) a w := bk_alloc (o := ⟨d, .alloc ty, tt, pos, af, none⟩) rfl rfl H hz.out fun b w' h' => h b w' ⟨h'⟩
theorem m_box {ty : TypeId} {x : Operand} {cs : Array Value} (H : Blks w0 w L) (hx : a.eval x = .agg cs := by rfl)
    (h : ∀ (b : Nat) (w' : World), Aside0 (Blks w0 w' ((b, cs.toList, ty) :: L)) → wpList P ops Q rest (a.put d (.pointer (some ⟨b, 0, none⟩))) w') :
    wpList P ops Q (⟨d, .box ty x, tt, pos, af, none⟩ :: rest) a w := bk_box (o := ⟨d, .box ty x, tt, pos, af, none⟩) rfl rfl H hx fun b w' h' => h b w' ⟨h'⟩
theorem m_slice {t e : TypeId} {len : Nat} {parts : Array (Nat × Operand)} {cells : Array Value} (hu : P.underlying t = some (.slice e))
    (hf : P.builtSlice e len (parts.map fun (i, x) => (i, a.eval x)).toList = some cells) (H : Blks w0 w L)
    (h : ∀ (b : Nat) (w' : World), Aside0 (Blks w0 w' ((b, cells.toList, e) :: L)) → wpList P ops Q rest (a.put d (.slice (some ⟨b, 0, none⟩) len len)) w') :
    wpList P ops Q (⟨d, .buildSlice t len parts, tt, pos, af, none⟩ :: rest) a w := bk_slice (o := ⟨d, .buildSlice t len parts, tt, pos, af, none⟩) rfl rfl H hu hf fun b w' h' => h b w' ⟨h'⟩
theorem m_build {t : TypeId} {parts : Array (Nat × Operand)} {cells : Array Value} (hf : P.built t (parts.map fun (i, x) => (i, a.eval x)).toList = some cells)
    (h : wpList P ops Q rest (a.put d (.agg cells)) w) : wpList P ops Q (⟨d, .build t parts, tt, pos, af, none⟩ :: rest) a w := bk_build (o := ⟨d, .build t parts, tt, pos, af, none⟩) rfl rfl hf h
end ops
def StrsAt (e : TypeId) (w : World) (base : Nat) (v : Value) (pp : List ByteArray) : Prop :=
  (v = .slice none 0 0 ∧ pp = []) ∨ ∃ g cap cells rest, v = .slice (some ⟨g, 0, none⟩) pp.length cap ∧ base ≤ g ∧ w.heap[g]? = some (.cells cells e (0, 0)) ∧ cells.toList = pp.map Value.string ++ rest
theorem StrsAt.below {e : TypeId} {w w' : World} {base : Nat} {v : Value} {pp : List ByteArray} (h : StrsAt e w base v pp) (hb : Below w.heap.size w w') : StrsAt e w' base v pp := by
  rcases h with h | ⟨g, cap, cells, rest, h1, h2, h3, h4⟩
  · exact Or.inl h
  · exact Or.inr ⟨g, cap, cells, rest, h1, h2, (hb.block g (hlt h3)).trans h3, h4⟩
theorem StrsAt.mono {e : TypeId} {w : World} {base base' : Nat} {v : Value} {pp : List ByteArray} (h : StrsAt e w base v pp) (hb : base' ≤ base) : StrsAt e w base' v pp := by
  rcases h with h | ⟨g, cap, cells, rest, h1, h2, h3, h4⟩
  · exact Or.inl h
  · exact Or.inr ⟨g, cap, cells, rest, h1, Nat.le_trans hb h2, h3, h4⟩
theorem StrsAt.val {e : TypeId} {w : World} {base : Nat} {v : Value} {pp : List ByteArray} (h : StrsAt e w base v pp) : ∃ A c, v = .slice A pp.length c := by
  rcases h with ⟨h, rfl⟩ | ⟨g, cap, _, _, h, _⟩
  · exact ⟨_, _, h⟩
  · exact ⟨_, _, h⟩
theorem StrsAt.get {e : TypeId} {w : World} {base : Nat} {v : Value} {pp : List ByteArray} (h : StrsAt e w base v pp) (hp : pp ≠ []) :
    ∃ g cap, v = .slice (some ⟨g, 0, none⟩) pp.length cap ∧ base ≤ g ∧ g < w.heap.size ∧ ∀ j (hj : j < pp.length), w.cell? ⟨g, j, none⟩ = some (.string pp[j]) := by
  rcases h with ⟨_, rfl⟩ | ⟨g, cap, cells, rest, h1, h2, h3, h4⟩
  · exact absurd rfl hp
  · refine ⟨g, cap, h1, h2, hlt h3, fun j hj => ?_⟩
    have := cell_of_row w g j cells e (0, 0) h3
    rw [this, ← Array.getElem?_toList, h4, List.getElem?_append_left (by simpa using hj), List.getElem?_map, List.getElem?_eq_getElem hj]
    rfl
theorem Blks.strs {w0 w : World} {L : List Blk} (h : Blks w0 w L) {g cap : Nat} {pp : List ByteArray} {rest : List Value} {e : TypeId} (hm : (g, pp.map Value.string ++ rest, e) ∈ L) : StrsAt e w w0.heap.size (.slice (some ⟨g, 0, none⟩) pp.length cap) pp :=
  Or.inr ⟨g, cap, _, rest, rfl, h.new _ hm, h.has _ hm, rfl⟩
theorem Blks.perm {w0 w : World} {L L' : List Blk} (h : Blks w0 w L) (hp : L.Perm L') : Blks w0 w L' :=
  ⟨h.bel, fun x hx => h.has x (hp.symm.subset hx), fun x hx => h.new x (hp.symm.subset hx), (hp.map _).nodup_iff.1 h.nd⟩
theorem Blks.turn3 {w0 w : World} {x y z : Blk} {L : List Blk} (h : Blks w0 w (x :: y :: z :: L)) : Blks w0 w (y :: z :: x :: L) :=
  h.perm ((List.Perm.swap y x (z :: L)).trans ((List.Perm.swap z x L).cons y))
section short
variable {P : Program} {ops : Array Oper} {rest : List Oper} {a : Act} {w0 w : World} {Q : Exit → Act → World → Prop} {L L' : List Blk}
variable {d : Option Tmp} {tt : TypeId} {pos : String} {af : Array Edge}
theorem n_own (H : Blks w0 w L := by repeat (first | exact HM.out | apply Blks.drewN | apply Blks.drew | apply Blks.other)) : Blks w0 w L := H
theorem n_mem {α : Type} {x : α} {l : List α} (h : x ∈ l := by repeat (first | exact List.Mem.head _ | apply List.Mem.tail)) : x ∈ l := h
theorem n_rd {cs vs : List Value} {o n : Nat} (h : Rd cs o n vs := by repeat (first | exact Rd.nil | apply Rd.here | apply Rd.skip)) : Rd cs o n vs := h
theorem n_bel (H : Blks w0 w L := by repeat (first | exact HM.out | apply Blks.drewN | apply Blks.drew | apply Blks.other)) : Below w0.heap.size w0 w := H.bel
theorem n_call {w1 : World} (hb : Below w.heap.size w w1) (H : Blks w0 w L := by repeat (first | exact HM.out | apply Blks.drewN | apply Blks.drew | apply Blks.other)) : Aside0 (Blks w0 w1 L) := ⟨Blks.call H hb⟩
theorem n_drew (n : Nat) (H : Blks w0 w L := by repeat (first | exact HM.out | apply Blks.drewN | apply Blks.drew | apply Blks.other)) : Aside0 (Blks w0 (w.drewN n) L) := ⟨Blks.drewN H n⟩
theorem n_cell {b o : Nat} {cs : List Value} {v : Value} {t : TypeId} (H : Blks w0 w L := by exact HM.out) (hm : (b, cs, t) ∈ L := by repeat (first | exact List.Mem.head _ | apply List.Mem.tail)) (hr : Rd cs o 1 [v] := by repeat (first | exact Rd.nil | apply Rd.here | apply Rd.skip)) : w.cell? ⟨b, o, none⟩ = some v := Blks.cell H hm hr
theorem n_ld {ty : TypeId} {x : Operand} {b off n : Nat} {cs vs : List Value} {t : TypeId} (h : wpList P ops Q rest (a.put d (.agg vs.toArray)) w) (H : Blks w0 w L := by repeat (first | exact HM.out | apply Blks.drewN | apply Blks.drew | apply Blks.other))
    (hx : a.eval x = .pointer (some ⟨b, off, none⟩) := by rfl) (hm : (b, cs, t) ∈ L := by repeat (first | exact List.Mem.head _ | apply List.Mem.tail)) [ht : RowC P ty n] (hr : Rd cs off n vs := by repeat (first | exact Rd.nil | apply Rd.here | apply Rd.skip)) :
    wpList P ops Q (⟨d, .load ty x, tt, pos, af, none⟩ :: rest) a w := m_load H hx hm hr h
theorem n_ld1 {ty : TypeId} {x : Operand} {b off : Nat} {cs : List Value} {v : Value} {t : TypeId} (h : wpList P ops Q rest (a.put d v) w) (H : Blks w0 w L := by repeat (first | exact HM.out | apply Blks.drewN | apply Blks.drew | apply Blks.other))
    (hx : a.eval x = .pointer (some ⟨b, off, none⟩) := by rfl) (hm : (b, cs, t) ∈ L := by repeat (first | exact List.Mem.head _ | apply List.Mem.tail)) [ht : OneC P ty] (hr : Rd cs off 1 [v] := by repeat (first | exact Rd.nil | apply Rd.here | apply Rd.skip)) :
    wpList P ops Q (⟨d, .load ty x, tt, pos, af, none⟩ :: rest) a w := m_load1 H hx hm hr h
theorem n_st {ty : TypeId} {x y : Operand} {b off n : Nat} {vs : Array Value} {cs cs' : List Value} {t : TypeId} (h : ∀ w', Aside0 (Blks w0 w' L') → wpList P ops Q rest a w') (H : Blks w0 w L := by repeat (first | exact HM.out | apply Blks.drewN | apply Blks.drew | apply Blks.other))
    (hx : a.eval x = .pointer (some ⟨b, off, none⟩) := by rfl) (hy : a.eval y = .agg vs := by rfl) [ht : RowC P ty n] (hn : vs.size = n := by rfl) (h1 : vs.all (·.oneCell') = true := by simp [Value.oneCell'])
    (hm : (b, cs, t) ∈ L := by repeat (first | exact List.Mem.head _ | apply List.Mem.tail)) (hw : Wr cs off vs.toList cs' := by repeat (first | exact Wr.nil | apply Wr.here | apply Wr.skip)) (hu : Up L b cs t cs' L' := by repeat (first | exact Up.here | apply Up.skip)) :
    wpList P ops Q (⟨none, .store ty x y, tt, pos, af, none⟩ :: rest) a w := m_store H hx hy hn h1 hm hw hu h
theorem n_st1 {ty : TypeId} {x y : Operand} {b off : Nat} {v : Value} {cs cs' : List Value} {t : TypeId} (h : ∀ w', Aside0 (Blks w0 w' L') → wpList P ops Q rest a w') (H : Blks w0 w L := by repeat (first | exact HM.out | apply Blks.drewN | apply Blks.drew | apply Blks.other))
    (hx : a.eval x = .pointer (some ⟨b, off, none⟩) := by rfl) (hy : a.eval y = v := by first | exact (rfl : _ = Value.bool _) | exact (rfl : _ = Value.int _ _) | exact (rfl : _ = Value.string _) | exact (rfl : _ = Value.slice _ _ _) | exact (rfl : _ = Value.iface _ _) | exact (rfl : _ = Value.nilIface) | exact (rfl : _ = Value.pointer _)) [ht : OneC P ty] [h1 : Plain v]
    (hm : (b, cs, t) ∈ L := by repeat (first | exact List.Mem.head _ | apply List.Mem.tail)) (hw : Wr cs off [v] cs' := by repeat (first | exact Wr.nil | apply Wr.here | apply Wr.skip)) (hu : Up L b cs t cs' L' := by repeat (first | exact Up.here | apply Up.skip)) :
    wpList P ops Q (⟨none, .store ty x y, tt, pos, af, none⟩ :: rest) a w := m_store1 H hx hy hm hw hu h
theorem n_al {ty : TypeId} {zs : Array Value} (h : ∀ (b : Nat) (w' : World), Aside0 (Blks w0 w' ((b, zs.toList, ty) :: L)) → wpList P ops Q rest (a.put d (.pointer (some ⟨b, 0, none⟩))) w') (H : Blks w0 w L := by repeat (first | exact HM.out | apply Blks.drewN | apply Blks.drew | apply Blks.other)) [hz : ZeroC P ty zs] :
    wpList P ops Q (⟨d, .alloc ty, tt, pos, af, none⟩ :: rest) a w := m_alloc H h
theorem n_bx {ty : TypeId} {x : Operand} {cs : Array Value} (h : ∀ (b : Nat) (w' : World), Aside0 (Blks w0 w' ((b, cs.toList, ty) :: L)) → wpList P ops Q rest (a.put d (.pointer (some ⟨b, 0, none⟩))) w') (H : Blks w0 w L := by repeat (first | exact HM.out | apply Blks.drewN | apply Blks.drew | apply Blks.other)) (hx : a.eval x = .agg cs := by rfl) :
    wpList P ops Q (⟨d, .box ty x, tt, pos, af, none⟩ :: rest) a w := m_box H hx h
theorem n_sl {t e : TypeId} {len : Nat} {parts : Array (Nat × Operand)} {cells : Array Value} (hu : P.underlying t = some (.slice e)) (hf : P.builtSlice e len (parts.map fun (i, x) => (i, a.eval x)).toList = some cells)
    (h : ∀ (b : Nat) (w' : World), Aside0 (Blks w0 w' ((b, cells.toList, e) :: L)) → wpList P ops Q rest (a.put d (.slice (some ⟨b, 0, none⟩) len len)) w') (H : Blks w0 w L := by repeat (first | exact HM.out | apply Blks.drewN | apply Blks.drew | apply Blks.other)) :
    wpList P ops Q (⟨d, .buildSlice t len parts, tt, pos, af, none⟩ :: rest) a w := m_slice hu hf H h
end short
end Go.Proofs.YtgoeiflddikihaaGreatDoor.Mem
end
section
namespace Go.Proofs.YtgoeiflddikihaaGreatDoor.Opens
open Go.RowKit Go.Proofs.YtgoeiflddikihaaGreatDoorW.PrintWords
theorem okWide_arr {P : Program} {w : World} {r : Reach} {base : Nat} {t e : TypeId} {n : Nat} {v : Value} (ht : P.underlying t = some (.array n e)) (h : Value.okWide P w r base t v) : ∃ cs, v = .agg cs ∧ True := by
  unfold Value.okWide at h
  cases v <;> simp_all
abbrev kArr : Kd (Int × Int × Int) := Kd.pair (Kd.int .u32) (Kd.pair (Kd.int .u32) (Kd.int .u32))
set_option maxRecDepth 100000 in
theorem opens_arr3 : Opens Tryz.prog 61 kArr (fun a => (Lit.int .u32 a.1).wf = true ∧ (Lit.int .u32 a.2.1).wf = true ∧ (Lit.int .u32 a.2.2).wf = true) := by
  intro H enc w base spare held fuel cs x h
  obtain ⟨xs, m, rfl, _, hl, hxl, hel⟩ := DataW.trod_array Tryz.underlying61 h
  have h1 : Tryz.prog.cellsOf 60 = 1 := by kernel_rfl
  have h3 : Tryz.prog.cellsOf 61 = 3 := by kernel_rfl
  rw [h3] at hl
  rw [h1] at hel
  match cs, hl with
  | [c0, c1, c2], _ =>
    have get : ∀ i (hi : i < 3), ∃ y, DataW.trod enc Tryz.prog w base spare held m 60 (([c0, c1, c2].drop (i * 1)).take 1) = some y := fun i hi => by
      rw [hel i hi, List.getElem?_eq_getElem (by omega)]; exact ⟨_, rfl⟩
    obtain ⟨y0, e0⟩ := get 0 (by decide)
    obtain ⟨y1, e1⟩ := get 1 (by decide)
    obtain ⟨y2, e2⟩ := get 2 (by decide)
    obtain ⟨a0, k0, g0⟩ := opens_int Tryz.underlying60 H enc w base spare held m _ y0 e0
    obtain ⟨a1, k1, g1⟩ := opens_int Tryz.underlying60 H enc w base spare held m _ y1 e1
    obtain ⟨a2, k2, g2⟩ := opens_int Tryz.underlying60 H enc w base spare held m _ y2 e2
    exact ⟨(a0, a1, a2), ⟨[c0], [c1, c2], rfl, k0, [c1], [c2], rfl, k1, k2⟩, g0, g1, g2⟩
theorem form_arr3 {w : World} {a : Int × Int × Int} {cs : Array Value} (h : kArr.K w a cs.toList) : cs = #[.int .u32 a.1, .int .u32 a.2.1, .int .u32 a.2.2] := by
  obtain ⟨c1, c2, e, h1, c3, c4, e2, h3, h4⟩ := h
  apply Array.ext'
  rw [e, e2, show c1 = [Value.int .u32 a.1] from h1, show c3 = [Value.int .u32 a.2.1] from h3, show c4 = [Value.int .u32 a.2.2] from h4]
  rfl
end Go.Proofs.YtgoeiflddikihaaGreatDoor.Opens
end
section
namespace Go.Proofs.YtgoeiflddikihaaGreatDoor.Mem
open Go.RowKit Go.Proofs.YtgoeiflddikihaaGreatDoorW.PrintWords
theorem Blks.less {w0 w : World} {L L' : List Blk} (h : Blks w0 w L) (hs : L'.Sublist L) : Blks w0 w L' :=
  ⟨h.bel, fun x hx => h.has x (hs.subset hx), fun x hx => h.new x (hs.subset hx), (hs.map _).nodup h.nd⟩
end Go.Proofs.YtgoeiflddikihaaGreatDoor.Mem
end
section
namespace Go.Proofs.YtgoeiflddikihaaGreatDoor.Mem
set_option linter.unusedSimpArgs false
set_option linter.unusedVariables false
open Go.RowKit Go.Proofs.YtgoeiflddikihaaGreatDoorW.PrintWords
theorem row_keep {w w' : World} {base : Nat} {e : TypeId} {sz : Nat} {v : Value} {n : Nat} {xs : List Value} (h : w.ownsRow base e sz v n xs) (hb : Below w.heap.size w w') : w'.ownsRow base e sz v n xs :=
  ⟨h.1, h.2.imp id fun ⟨g, cap, cur, h1, h2, h3, h4⟩ => ⟨g, cap, cur, h1, h2, (hb.block g (hlt h3)).trans h3, h4⟩⟩
theorem row_val {w : World} {base : Nat} {e : TypeId} {sz : Nat} {v : Value} {n : Nat} {xs : List Value} (h : w.ownsRow base e sz v n xs) : ∃ A c, v = .slice A n c ∧ n ≤ maxLen := by
  rcases h.2 with ⟨rfl, rfl⟩ | ⟨g, cap, _, rfl, _, _, h1, h2, _⟩
  · exact ⟨_, _, rfl, Nat.zero_le _⟩
  · exact ⟨_, _, rfl, Nat.le_trans h1 h2⟩
theorem row_at {w : World} {base : Nat} {e : TypeId} {sz : Nat} {v : Value} {n : Nat} {xs : List Value} (h : w.ownsRow base e sz v n xs) {k : Nat} (hk : k < n) :
    ∃ g c, v = .slice (some ⟨g, 0, none⟩) n c ∧ w.rangeAt g (k * sz) ((xs.drop (k * sz)).take sz) := by
  rcases h.2 with ⟨rfl, rfl⟩ | ⟨g, cap, cur, rfl, _, hg, h1, h2, h3, h4⟩
  · omega
  · refine ⟨g, cap, rfl, fun j u hj => ?_⟩
    rw [cell_of_row w g _ cur e (0, 0) hg, ← Array.getElem?_toList]
    rw [List.getElem?_take] at hj
    split at hj
    · rename_i hjs
      rw [List.getElem?_drop, ← h4, List.getElem?_take] at hj
      split at hj
      · exact hj
      · cases hj
    · cases hj
theorem row_src {P : Program} {w : World} {base : Nat} {e tx : TypeId} {sz : Nat} {v : Value} {n : Nat} {xs : List Value} (hu : P.underlying tx = some (.slice e)) (h : w.ownsRow base e sz v n xs) (h1 : ∀ u ∈ xs, u.oneCell' = true) : Src P sz tx v n xs w := by
  rcases h.2 with ⟨rfl, rfl⟩ | ⟨g, cap, cur, rfl, _, hg, _, _, _, h4⟩
  · have : xs = [] := List.length_eq_zero_iff.1 (by rw [h.1]; omega)
    subst this
    exact Src.ofNil w hu 0
  · refine Src.ofSlice w hu _ _ _ _ h.1 (fun j u hj => ?_) h1
    rw [Addr.add_mid, cell_of_row w g _ cur e (0, 0) hg, ← Array.getElem?_toList]
    rw [← h4, List.getElem?_take] at hj
    split at hj
    · simpa using hj
    · cases hj
def SlB (e : TypeId) (sz n : Nat) (xs : List Value) (v : Value) (X : List Blk) : Prop :=
  (v = .slice none 0 0 ∧ n = 0 ∧ xs = [] ∧ X = []) ∨
  ∃ g cap rest, v = .slice (some ⟨g, 0, none⟩) n cap ∧ n ≤ cap ∧ cap ≤ maxLen ∧ xs.length = n * sz ∧ (xs ++ rest).length = cap * sz ∧ X = [(g, xs ++ rest, e)]
theorem SlB.nil (e : TypeId) (sz : Nat) : SlB e sz 0 [] (.slice none 0 0) [] := Or.inl ⟨rfl, rfl, rfl, rfl⟩
theorem SlB.val {e : TypeId} {sz n : Nat} {xs : List Value} {v : Value} {X : List Blk} (h : SlB e sz n xs v X) : ∃ A c, v = .slice A n c ∧ v.oneCell' = true := by
  rcases h with ⟨rfl, rfl, _⟩ | ⟨g, cap, _, rfl, _⟩
  · exact ⟨_, _, rfl, rfl⟩
  · exact ⟨_, _, rfl, rfl⟩
theorem SlB.owns {e : TypeId} {sz n : Nat} {xs : List Value} {v : Value} {X L : List Blk} {w0 w : World} (h : SlB e sz n xs v X) (H : Blks w0 w L) (hs : ∀ x ∈ X, x ∈ L) : w.ownsRow w0.heap.size e sz v n xs := by
  rcases h with ⟨rfl, rfl, rfl, _⟩ | ⟨g, cap, rest, rfl, h1, h2, h3, h4, rfl⟩
  · exact World.ownsRow_nil _ _ _ _
  · have hm := hs _ (List.mem_singleton.2 rfl)
    exact ⟨h3, Or.inr ⟨g, cap, (xs ++ rest).toArray, rfl, H.new _ hm, H.has _ hm, h1, h2, by simpa using h4, by simp [← h3]⟩⟩
theorem SlB.of {e : TypeId} {sz n : Nat} {xs : List Value} {v : Value} {L : List Blk} {w0 w w1 : World} (H : Blks w0 w L) (hb : Below w.heap.size w w1) (ho : w1.ownsRow w.heap.size e sz v n xs) : ∃ X, SlB e sz n xs v X ∧ Blks w0 w1 (L ++ X) := by
  rcases ho.2 with ⟨rfl, rfl⟩ | ⟨g, cap, cur, rfl, hg, hc, h1, h2, h3, h4⟩
  · have : xs = [] := List.length_eq_zero_iff.1 (by rw [ho.1]; omega)
    subst this
    exact ⟨[], SlB.nil _ _, by rw [List.append_nil]; exact H.call hb⟩
  · have e1 : cur.toList = xs ++ cur.toList.drop (n * sz) := by rw [← h4, List.take_append_drop]
    refine ⟨[(g, xs ++ cur.toList.drop (n * sz), e)], Or.inr ⟨g, cap, _, rfl, h1, h2, ho.1, by rw [← e1, Array.length_toList, h3], rfl⟩, ?_⟩
    exact (H.add hb hg hc e1).perm (List.perm_append_comm (l₁ := [_]) (l₂ := L))
theorem up_append {Y : List Blk} {b : Nat} {cs cs' : List Value} {t : TypeId} : Up (Y ++ [(b, cs, t)]) b cs t cs' (Y ++ [(b, cs', t)]) := by
  induction Y with
  | nil => exact Up.here
  | cons y Y ih => exact Up.skip ih
theorem wr_append : ∀ (xs a news r : List Value), a.length = news.length → Wr (xs ++ (a ++ r)) xs.length news (xs ++ (news ++ r))
  | [], [], [], _, _ => Wr.nil
  | [], _ :: _, [], _, h => by cases h
  | [], [], _ :: _, _, h => by cases h
  | [], x :: a, y :: b, r, h => Wr.here (wr_append [] a b r (by simpa using h))
  | x :: xs, a, b, r, h => Wr.skip (wr_append xs a b r h)
theorem sl_append {P : Program} {t tx ty e : TypeId} {z : Value} {sz bytes : Nat} (ht : P.underlying t = some (.slice e)) (hi : (P.info? e).map (fun i => (i.zero, i.size, i.bytes)) = some (some z, sz, bytes)) (hsz : 0 < sz)
    (hz : z.cells.size = sz) {w0 w : World} {Y X : List Blk} (H : Blks w0 w (Y ++ X)) {n m : Nat} {xs news : List Value} {v x : Value} (h : SlB e sz n xs v X) (hs : Src P sz tx x m news w) (hb : (n + m) * bytes ≤ 140737488355328) (hm : n + m ≤ maxLen) :
    ∃ v' X' w', (Builtin.append_ #[t, tx] ty #[v, x]).run P w = .ok v' w' ∧ Blks w0 w' (Y ++ X') ∧ SlB e sz (n + m) (xs ++ news) v' X' := by
  obtain ⟨i, hi, hz0, hz1, hz2⟩ := info_parts hi
  have hnl := hs.newsLen
  have grow : ∀ (base : Option Addr) (cp : Nat), v = .slice base n cp → cp < n + m → (Builtin.firstCells sz n (.slice base n cp)).run P w.drew = .ok xs.toArray w.drew → xs.length = n * sz →
      (∀ x ∈ Y, x ∈ Y ++ X) → ∃ v' X' w', (Builtin.append_ #[t, tx] ty #[v, x]).run P w = .ok v' w' ∧ Blks w0 w' (Y ++ X') ∧ SlB e sz (n + m) (xs ++ news) v' X' := by
    intro base cp hv hg hold hl hY
    have hfit : Builtin.nextslicecap (n + m) cp * i.bytes ≤ 281474976710656 := growslice_fits hg (by rw [hz2]; exact hb)
    have hs' : Src P i.size tx x m news w := by rw [hz1]; exact hs
    have hr := run_append_grow_src w t tx ty e i _ ht hi hz0 base n cp xs (by rw [hz1]; exact hold) x m news hs' hg (by unfold maxLen at hm; omega) hfit
    rw [← hv] at hr
    have HY : Blks w0 w Y := ⟨H.bel, fun x hx => H.has x (hY x hx), fun x hx => H.new x (hY x hx), (List.nodup_append.1 (by have := H.nd; rwa [List.map_append] at this)).1⟩
    have HA := HY.drew.alloc ((xs ++ news).toArray ++ Builtin.zeroCells z.cells (grownCap w (n + m) cp e - (n + m))) e
    have hcap := grownCap_ge w (n + m) cp e
    refine ⟨_, [(w.heap.size, (xs ++ news) ++ (Builtin.zeroCells z.cells (grownCap w (n + m) cp e - (n + m))).toList, e)], _, hr, ?_, Or.inr ⟨_, _, _, rfl, hcap, grownCap_le_maxLen _ _ _ _ hm, by rw [List.length_append, hl, hnl, ← Nat.add_mul], ?_, rfl⟩⟩
    · have hp := HA.perm (List.perm_append_comm (l₁ := [_]) (l₂ := Y))
      rw [Array.toList_append] at hp
      exact hp
    · rw [List.length_append, List.length_append, hl, hnl, ← Nat.add_mul, Array.length_toList, size_zeroCells, hz, ← Nat.add_mul]
      congr 1
      omega
  rcases h with ⟨rfl, rfl, rfl, rfl⟩ | ⟨g, cap, rest, rfl, h1, h2, h3, h4, rfl⟩
  · by_cases h0 : m = 0
    · subst h0
      have : news = [] := List.length_eq_zero_iff.1 (by rw [hnl]; omega)
      subst this
      refine ⟨.slice none 0 0, [], w, ?_, H, SlB.nil _ _⟩
      have hcl := hs.cells
      rcases hs.kind with ⟨e', hk⟩ | hk <;> simp [Builtin.append_, run_underlying ht, run_underlying hk, sizeOf, typeInfo, hi, hs.len, hz1, hcl]
    · exact grow none 0 rfl (by omega) (run_firstCells_none w.drew sz 0 0 0) (by simp) (fun x hx => List.mem_append_left _ hx)
  · have hm1 : (g, xs ++ rest, e) ∈ Y ++ [(g, xs ++ rest, e)] := List.mem_append_right _ (List.mem_singleton.2 rfl)
    by_cases hr : n + m ≤ cap
    · have hs' : Src P i.size tx x m news w := by rw [hz1]; exact hs
      rw [List.length_append, h3] at h4
      have hle : n * sz + news.length ≤ n * sz + rest.length := by
        rw [hnl, h4, ← Nat.add_mul]
        exact Nat.mul_le_mul_right _ hr
      have hth : w.there g (n * sz) news.length := H.there hm1 (by rw [List.length_append, h3]; exact hle)
      have hrun := run_append_room_src (P := P) w t tx ty e i ht hi g 0 n cap x m news hs' hr (fun j hj => by rw [hz1, Nat.zero_add]; exact (hth j hj).1) (fun j hj => by rw [hz1, Nat.zero_add]; exact (hth j hj).2)
      rw [hz1, Nat.zero_add] at hrun
      have hw : Wr (xs ++ rest) (n * sz) news (xs ++ (news ++ rest.drop news.length)) := by
        have e1 : rest = rest.take news.length ++ rest.drop news.length := (List.take_append_drop _ _).symm
        have := wr_append xs (rest.take news.length) news (rest.drop news.length) (by rw [List.length_take]; omega)
        rw [← e1, h3] at this
        exact this
      refine ⟨_, [(g, (xs ++ news) ++ rest.drop news.length, e)], _, hrun, ?_, Or.inr ⟨g, cap, _, rfl, hr, h2, by rw [List.length_append, h3, hnl, ← Nat.add_mul], ?_, rfl⟩⟩
      · rw [List.append_assoc]
        exact H.set hw up_append
      · rw [List.length_append, List.length_append, h3, List.length_drop, ← h4]
        omega
    · refine grow (some ⟨g, 0, none⟩) cap rfl (by omega) (run_firstCells_some w.drew sz n _ n cap xs h3 (fun j u hj => ?_)) h3 (fun x hx => List.mem_append_left _ hx)
      rw [Addr.add_mid, Nat.zero_add]
      have hb := H.drew.has _ hm1
      rw [cell_of_row w.drew g _ _ e (0, 0) hb, ← Array.getElem?_toList]
      rw [List.getElem?_append_left (List.getElem?_eq_some_iff.1 hj).1]
      exact hj
theorem foldl_put : ∀ (l : List Value) (k : Nat) (z : Array Value), k + l.length ≤ z.size →
    ((l.zipIdx k).foldl (fun acc x => acc.setIfInBounds (0 + x.2) x.1) z).toList = z.toList.take k ++ l ++ z.toList.drop (k + l.length)
  | [], k, z, _ => by simp
  | c :: l, k, z, h => by
    have h' : k + 1 + l.length ≤ (z.setIfInBounds (0 + k) c).size := by simp only [List.length_cons] at h; simp; omega
    have hk : k < z.toList.length := by simp only [List.length_cons] at h; simp; omega
    rw [List.zipIdx_cons, List.foldl_cons, foldl_put l (k + 1) _ h']
    simp only [Array.toList_setIfInBounds, Nat.zero_add, List.length_cons]
    rw [List.take_set, List.drop_set_of_lt (by omega), List.take_succ_eq_append_getElem hk, List.set_append_right _ _ (by simp; omega)]
    have e : k - (List.take k z.toList).length = 0 := by rw [List.length_take]; omega
    rw [e]
    simp [Nat.add_assoc, Nat.add_comm 1]
theorem fill_n {n : Nat} (cs z : Array Value) (h : cs.size = n) (hz : z.size = n) : Instr.fill (fun i => some (i * n, n)) z [(0, .agg cs)] = some cs := by
  have hf := foldl_put cs.toList 0 z (by simp; omega)
  simp only [List.take_zero, List.nil_append, Nat.zero_add, Array.length_toList] at hf
  rw [h, ← hz, ← Array.length_toList, List.drop_length, List.append_nil] at hf
  unfold Instr.fill
  simp only [Value.cells, h, Nat.zero_mul]
  rw [if_neg (by simp [hz])]
  unfold Instr.fill
  congr 1
  apply Array.ext'
  rw [← Array.foldl_toList, Array.toList_zipIdx]
  simp only [Nat.zero_add]
  exact hf
theorem slice_one {P : Program} {e : TypeId} {z : Value} {sz bytes : Nat} (hi : (P.info? e).map (fun i => (i.zero, i.size, i.bytes)) = some (some z, sz, bytes)) (hz : z.cells.size = sz) (hs : 0 < sz ∧ sz ≤ 1000) (cs : Array Value) (h : cs.size = sz) : P.builtSlice e 1 [(0, .agg cs)] = some cs := by
  obtain ⟨iv, hvi, hvz0, hvz1, _⟩ := info_parts hi
  unfold Program.builtSlice
  simp only [hvi, hvz0, hvz1]
  rw [if_neg (by omega)]
  exact fill_n cs _ h (by rw [Array.size_map, Array.size_range]; omega)
class SlcC (P : Program) (t : TypeId) (sz : outParam Nat) : Prop where out : ∃ e, P.underlying t = some (.slice e) ∧ (P.info? e).map (·.size) = some sz
section
variable {P : Program} {ops : Array Oper} {rest : List Oper} {a : Act} {w0 w : World} {Q : Exit → Act → World → Prop} {L Y X : List Blk}
variable {d : Option Tmp} {tt : TypeId} {pos : String} {af : Array Edge}
theorem id_load {ty : TypeId} {x : Operand} (h : wpList P ops Q (⟨d, .load ty x, tt, pos, af, none⟩ :: rest) a w) : wpList P ops Q (⟨d, .load ty x, tt, pos, af, none⟩ :: rest) a w := h
theorem id_store {ty : TypeId} {x y : Operand} (h : wpList P ops Q (⟨d, .store ty x y, tt, pos, af, none⟩ :: rest) a w) : wpList P ops Q (⟨d, .store ty x y, tt, pos, af, none⟩ :: rest) a w := h
theorem id_alloc {ty : TypeId} (h : wpList P ops Q (⟨d, .alloc ty, tt, pos, af, none⟩ :: rest) a w) : wpList P ops Q (⟨d, .alloc ty, tt, pos, af, none⟩ :: rest) a w := h
theorem id_box {ty : TypeId} {x : Operand} (h : wpList P ops Q (⟨d, .box ty x, tt, pos, af, none⟩ :: rest) a w) : wpList P ops Q (⟨d, .box ty x, tt, pos, af, none⟩ :: rest) a w := h
theorem id_index {ty : TypeId} {x i : Operand} (h : wpList P ops Q (⟨d, .indexAddr ty x i, tt, pos, af, none⟩ :: rest) a w) : wpList P ops Q (⟨d, .indexAddr ty x i, tt, pos, af, none⟩ :: rest) a w := h
theorem id_build {ty : TypeId} {ps : Array (Nat × Operand)} (h : wpList P ops Q (⟨d, .build ty ps, tt, pos, af, none⟩ :: rest) a w) : wpList P ops Q (⟨d, .build ty ps, tt, pos, af, none⟩ :: rest) a w := h
theorem id_slice {ty : TypeId} {n : Nat} {ps : Array (Nat × Operand)} (h : wpList P ops Q (⟨d, .buildSlice ty n ps, tt, pos, af, none⟩ :: rest) a w) : wpList P ops Q (⟨d, .buildSlice ty n ps, tt, pos, af, none⟩ :: rest) a w := h
theorem m_append {s x : Operand} {t tx e : TypeId} {z : Value} {sz bytes n m : Nat} {xs news : List Value} {v xv : Value} (H : Blks w0 w L) (hL : L = Y ++ X) (h : SlB e sz n xs v X)
    (ht : P.underlying t = some (.slice e)) (hi : (P.info? e).map (fun i => (i.zero, i.size, i.bytes)) = some (some z, sz, bytes)) (hsz : 0 < sz) (hz : z.cells.size = sz)
    (hs : a.eval s = v) (hx : a.eval x = xv) (src : Src P sz tx xv m news w) (hb : (n + m) * bytes ≤ 140737488355328) (hm : n + m ≤ maxLen)
    (k : ∀ v' X' w', Aside0 (Blks w0 w' (Y ++ X')) → Hid (SlB e sz (n + m) (xs ++ news) v' X') → wpList P ops Q rest (a.put d v') w') :
    wpList P ops Q (⟨d, .call { callee := .builtin .append, args := #[s, x], argTypes := #[t, tx] }, tt, pos, af, none⟩ :: rest) a w := by
  subst hL
  obtain ⟨v', X', w', hr, h1, h2⟩ := sl_append (ty := tt) ht hi hsz hz H h src hb hm
  refine wpList_step fun K hK => ?_
  rw [if_pos (by simp [Region.wanted])]
  unfold Oper.wp execOp
  simp only [resolve, invoke, builtin, Sem.run_bind, Sem.run_pure, Result.andThen_ok, List.map_toArray, List.map_cons, List.map_nil, hs, hx, hr]
  exact hK _ _ (k v' X' w' ⟨h1⟩ (Lib.hid h2))
theorem m_index {t : TypeId} {x i : Operand} {g c n k sz : Nat} [hs : SlcC P t sz] (hk : k < n) (hx : a.eval x = .slice (some ⟨g, 0, none⟩) n c := by rfl) (hi : a.eval i = .int .i64 (k : Int) := by rfl)
    (h : wpList P ops Q rest (a.put d (.pointer (some ⟨g, k * sz, none⟩))) w) : wpList P ops Q (⟨d, .indexAddr t x i, tt, pos, af, none⟩ :: rest) a w := by
  obtain ⟨e, hu, hz⟩ := hs.out
  refine wpList_plain rfl fun K hK => ?_
  unfold Oper.wp execOp
  have hrun : (Instr.indexAt t (.slice (some ⟨g, 0, none⟩) n c) (.int .i64 (k : Int))).run P w = .ok (.pointer (some ⟨g, k * sz, none⟩)) w := by
    cases hq : P.info? e with
    | none => simp [hq] at hz
    | some i =>
      have hs : i.size = sz := by simpa [hq] using hz
      have h2 : (0 : Int) ≤ (k : Int) ∧ (k : Int) < (n : Int) := ⟨by omega, by omega⟩
      simp [Instr.indexAt, asIntOf, run_underlying hu, sizeOf, typeInfo, hq, hs, h2, Addr.add_mid, hk]
  simp only [hx, hi, Sem.run_bind, Sem.run_pure, Result.andThen_ok, hrun]
  exact hK _ _ h
end
end Go.Proofs.YtgoeiflddikihaaGreatDoor.Mem
end
section
namespace Go.Proofs.YtgoeiflddikihaaGreatDoor.PFnIntersectAny
open Go.RowKit Go.Proofs.YtgoeiflddikihaaGreatDoorW.PrintWords Go.Proofs.YtgoeiflddikihaaGreatDoorW.PrintLast Go.Proofs.YtgoeiflddikihaaGreatDoorW.PrintMore
attribute [local go_sem] max2_int min2_int max_two min_two max_three min_three max_four min_four   -- for this text's walks alone
set_option linter.unusedVariables false
set_option linter.unusedSimpArgs false
def errW : Option Int → Value
  | none => .nilIface
  | some c => .iface 267 (.int .i64 c)
theorem errW_none : errW none = .nilIface := rfl
theorem errW_some (c : Int) : errW (some c) = .iface 267 (.int .i64 c) := rfl
theorem info9 : (Tryz.prog.info? 9).map (fun i => (i.zero, i.size, i.bytes)) = some (some (.string ⟨#[]⟩), 1, 16) := by kernel_rfl
structure S27 where
  f0 : Int
  f1 : ByteArray
  f2 : ByteArray
structure S30 where
  f0 : Int
  f1 : ByteArray
  f2 : ByteArray
end Go.Proofs.YtgoeiflddikihaaGreatDoor.PFnIntersectAny
end
section
namespace Go.Proofs.YtgoeiflddikihaaGreatDoor.PFnVersion
open Go.RowKit Go.Proofs.YtgoeiflddikihaaGreatDoorW.PrintWords Go.Proofs.YtgoeiflddikihaaGreatDoorW.PrintLast Go.Proofs.YtgoeiflddikihaaGreatDoorW.PrintMore
attribute [local go_sem] max2_int min2_int max_two min_two max_three min_three max_four min_four   -- for this text's walks alone
set_option linter.unusedVariables false
set_option linter.unusedSimpArgs false
def errW : Option Int → Value
  | none => .nilIface
  | some c => .iface 267 (.int .i64 c)
theorem errW_none : errW none = .nilIface := rfl
theorem errW_some (c : Int) : errW (some c) = .iface 267 (.int .i64 c) := rfl
theorem info9 : (Tryz.prog.info? 9).map (fun i => (i.zero, i.size, i.bytes)) = some (some (.string ⟨#[]⟩), 1, 16) := by kernel_rfl
end Go.Proofs.YtgoeiflddikihaaGreatDoor.PFnVersion
end
