/- Merged by program out of: Mem3, Drawn, Opens2, PFnVersionx0. -/
import Derived.Test.YtgoeiflddikihaaGreatDoorCpM5
import Derived.Deep.RegionHeld
import Derived.OrdersHeld
import Derived.Test.YtgoeiflddikihaaGreatDoorProg
import Derived.Below
import Derived.Deep.Draws
import Derived.Deep.AppendLies
import Derived.Maps.AppendAt
import Derived.OwnWalk
import Derived.Laws.BytesArg
import Derived.Laws.MakeOwn
import Derived.Laws.OwnMore
import Derived.Deep.OwnRows
import Derived.Tactics
import Derived.Lib.ConvBytes
import Derived.Laws.Slices
import Derived.WalkKit
import Derived.KernelRfl
import Derived.RowKit3
import Derived.Deep.LoopGhost
import Derived.Deep.QuietTactic
import Derived.BigQuiet
import Derived.WideLaws
import Derived.Deep.DeepCutAuto
import Derived.Deep.CutBlock
import Derived.Deep.RegionHeld3
import Derived.Laws.Rows
import Derived.Lib.AppendStr
import Derived.ArgAppend
import Derived.Laws.IdiomCopy
import Derived.Laws.BitsLemmas
import Derived.RowKit
import Derived.Test.YtgoeiflddikihaaGreatDoorCpM0
import Derived.Test.YtgoeiflddikihaaGreatDoorCpM1
import Derived.Test.YtgoeiflddikihaaGreatDoorCpM2
section
namespace Go.Proofs.YtgoeiflddikihaaGreatDoor.Mem
open Go.RowKit Go.Proofs.YtgoeiflddikihaaGreatDoorW.PrintWords
class RowC (P : Program) (ty : TypeId) (n : outParam Nat) : Prop where out : RowT P ty n
class OneC (P : Program) (ty : TypeId) : Prop where out : OneT P ty
class ZeroC (P : Program) (ty : TypeId) (zs : outParam (Array Value)) : Prop where out : (P.info? ty).bind (fun i => i.zero.map (·.cells)) = some zs
class Plain (v : Value) : Prop where out : v.oneCell' = true
instance (b : Bool) : Plain (.bool b) := ⟨rfl⟩
instance (k : IntKind) (n : Int) : Plain (.int k n) := ⟨rfl⟩
instance (s : ByteArray) : Plain (.string s) := ⟨rfl⟩
instance (x : Option Addr) (n m : Nat) : Plain (.slice x n m) := ⟨rfl⟩
instance (t : TypeId) (v : Value) : Plain (.iface t v) := ⟨rfl⟩
instance : Plain .nilIface := ⟨rfl⟩
instance (x : Option Addr) : Plain (.pointer x) := ⟨rfl⟩
section ops
variable {P : Program} {ops : Array Oper} {rest : List Oper} {a : Act} {w0 w : World} {Q : Exit → Act → World → Prop} {L L' : List Blk}
variable {d : Option Tmp} {tt : TypeId} {pos : String} {af : Array Edge}
theorem m_load {ty : TypeId} {x : Operand} {b off n : Nat} {cs vs : List Value} {t : TypeId} (H : Blks w0 w L)
    (hx : a.eval x = .pointer (some ⟨b, off, none⟩) := by rfl) (hm : (b, cs, t) ∈ L := by repeat (first | exact List.Mem.head _ | apply List.Mem.tail))
    [ht : RowC P ty n] (hr : Rd cs off n vs := by repeat (first | exact Rd.nil | apply Rd.here | apply Rd.skip)) (h : wpList P ops Q rest (a.put d (.agg vs.toArray)) w) :
    wpList P ops Q (⟨d, .load ty x, tt, pos, af, none⟩ :: rest) a w := bk_load (o := ⟨d, .load ty x, tt, pos, af, none⟩) rfl rfl hx H hm ht.out hr h
theorem m_load1 {ty : TypeId} {x : Operand} {b off : Nat} {cs : List Value} {v : Value} {t : TypeId} (H : Blks w0 w L)
    (hx : a.eval x = .pointer (some ⟨b, off, none⟩) := by rfl) (hm : (b, cs, t) ∈ L := by repeat (first | exact List.Mem.head _ | apply List.Mem.tail))
    [ht : OneC P ty] (hr : Rd cs off 1 [v] := by repeat (first | exact Rd.nil | apply Rd.here | apply Rd.skip)) (h : wpList P ops Q rest (a.put d v) w) :
    wpList P ops Q (⟨d, .load ty x, tt, pos, af, none⟩ :: rest) a w := bk_load1 (o := ⟨d, .load ty x, tt, pos, af, none⟩) rfl rfl hx H hm ht.out hr h
theorem m_store {ty : TypeId} {x y : Operand} {b off n : Nat} {vs : Array Value} {cs cs' : List Value} {t : TypeId} (H : Blks w0 w L)
    (hx : a.eval x = .pointer (some ⟨b, off, none⟩) := by rfl) (hy : a.eval y = .agg vs := by rfl) [ht : RowC P ty n] (hn : vs.size = n := by rfl) (h1 : vs.all (·.oneCell') = true := by simp [Value.oneCell'])
    (hm : (b, cs, t) ∈ L := by repeat (first | exact List.Mem.head _ | apply List.Mem.tail)) (hw : Wr cs off vs.toList cs' := by repeat (first | exact Wr.nil | apply Wr.here | apply Wr.skip))
    (hu : Up L b cs t cs' L' := by repeat (first | exact Up.here | apply Up.skip)) (h : ∀ w', Aside0 (Blks w0 w' L') → wpList P ops Q rest a w') :
    wpList P ops Q (⟨none, .store ty x y, tt, pos, af, none⟩ :: rest) a w :=
  bk_store (o := ⟨none, .store ty x y, tt, pos, af, none⟩) rfl rfl rfl hx hy H ht.out hn h1 hm hw hu fun w' h' => h w' ⟨h'⟩
theorem m_store1 {ty : TypeId} {x y : Operand} {b off : Nat} {v : Value} {cs cs' : List Value} {t : TypeId} (H : Blks w0 w L)
    (hx : a.eval x = .pointer (some ⟨b, off, none⟩) := by rfl) (hy : a.eval y = v) [ht : OneC P ty] [h1 : Plain v]
    (hm : (b, cs, t) ∈ L := by repeat (first | exact List.Mem.head _ | apply List.Mem.tail)) (hw : Wr cs off [v] cs' := by repeat (first | exact Wr.nil | apply Wr.here | apply Wr.skip))
    (hu : Up L b cs t cs' L' := by repeat (first | exact Up.here | apply Up.skip)) (h : ∀ w', Aside0 (Blks w0 w' L') → wpList P ops Q rest a w') :
    wpList P ops Q (⟨none, .store ty x y, tt, pos, af, none⟩ :: rest) a w :=
  bk_store1 (o := ⟨none, .store ty x y, tt, pos, af, none⟩) rfl rfl rfl hx hy H ht.out h1.out hm hw hu fun w' h' => h w' ⟨h'⟩
theorem m_alloc {ty : TypeId} {zs : Array Value} (H : Blks w0 w L) [hz : ZeroC P ty zs]
    (h : ∀ (b : Nat) (w' : World), Aside0 (Blks w0 w' ((b, zs.toList, ty) :: L)) → wpList P ops Q rest (a.put d (.pointer (some ⟨b, 0, none⟩))) w') :
    wpList P ops Q (⟨d, .alloc ty, tt, pos, af, none⟩ :: rest) a w := bk_alloc (o := ⟨d, .alloc ty, tt, pos, af, none⟩) rfl rfl H hz.out fun b w' h' => h b w' ⟨h'⟩
theorem m_box {ty : TypeId} {x : Operand} {cs : Array Value} (H : Blks w0 w L) (hx : a.eval x = .agg cs := by rfl)
    (h : ∀ (b : Nat) (w' : World), Aside0 (Blks w0 w' ((b, cs.toList, ty) :: L)) → wpList P ops Q rest (a.put d (.pointer (some ⟨b, 0, none⟩))) w') :
    wpList P ops Q (⟨d, .box ty x, tt, pos, af, none⟩ :: rest) a w := bk_box (o := ⟨d, .box ty x, tt, pos, af, none⟩) rfl rfl H hx fun b w' h' => h b w' ⟨h'⟩
theorem m_slice {t e : TypeId} {len : Nat} {parts : Array (Nat × Operand)} {cells : Array Value} (hu : P.underlying t = some (.slice e))
    (hf : P.builtSlice e len (parts.map fun (i, x) => (i, a.eval x)).toList = some cells) (H : Blks w0 w L)
    (h : ∀ (b : Nat) (w' : World), Aside0 (Blks w0 w' ((b, cells.toList, e) :: L)) → wpList P ops Q rest (a.put d (.slice (some ⟨b, 0, none⟩) len len)) w') :
    wpList P ops Q (⟨d, .buildSlice t len parts, tt, pos, af, none⟩ :: rest) a w := bk_slice (o := ⟨d, .buildSlice t len parts, tt, pos, af, none⟩) rfl rfl H hu hf fun b w' h' => h b w' ⟨h'⟩
theorem m_build {t : TypeId} {parts : Array (Nat × Operand)} {cells : Array Value} (hf : P.built t (parts.map fun (i, x) => (i, a.eval x)).toList = some cells)
    (h : wpList P ops Q rest (a.put d (.agg cells)) w) : wpList P ops Q (⟨d, .build t parts, tt, pos, af, none⟩ :: rest) a w := bk_build (o := ⟨d, .build t parts, tt, pos, af, none⟩) rfl rfl hf h
end ops
def StrsAt (e : TypeId) (w : World) (base : Nat) (v : Value) (pp : List ByteArray) : Prop :=
  (v = .slice none 0 0 ∧ pp = []) ∨ ∃ g cap cells rest, v = .slice (some ⟨g, 0, none⟩) pp.length cap ∧ base ≤ g ∧ w.heap[g]? = some (.cells cells e (0, 0)) ∧ cells.toList = pp.map Value.string ++ rest
theorem StrsAt.below {e : TypeId} {w w' : World} {base : Nat} {v : Value} {pp : List ByteArray} (h : StrsAt e w base v pp) (hb : Below w.heap.size w w') : StrsAt e w' base v pp := by
  rcases h with h | ⟨g, cap, cells, rest, h1, h2, h3, h4⟩
  · exact Or.inl h
  · exact Or.inr ⟨g, cap, cells, rest, h1, h2, (hb.block g (hlt h3)).trans h3, h4⟩
theorem StrsAt.mono {e : TypeId} {w : World} {base base' : Nat} {v : Value} {pp : List ByteArray} (h : StrsAt e w base v pp) (hb : base' ≤ base) : StrsAt e w base' v pp := by
  rcases h with h | ⟨g, cap, cells, rest, h1, h2, h3, h4⟩
  · exact Or.inl h
  · exact Or.inr ⟨g, cap, cells, rest, h1, Nat.le_trans hb h2, h3, h4⟩
theorem StrsAt.val {e : TypeId} {w : World} {base : Nat} {v : Value} {pp : List ByteArray} (h : StrsAt e w base v pp) : ∃ A c, v = .slice A pp.length c := by
  rcases h with ⟨h, rfl⟩ | ⟨g, cap, _, _, h, _⟩
  · exact ⟨_, _, h⟩
  · exact ⟨_, _, h⟩
theorem StrsAt.get {e : TypeId} {w : World} {base : Nat} {v : Value} {pp : List ByteArray} (h : StrsAt e w base v pp) (hp : pp ≠ []) :
    ∃ g cap, v = .slice (some ⟨g, 0, none⟩) pp.length cap ∧ base ≤ g ∧ g < w.heap.size ∧ ∀ j (hj : j < pp.length), w.cell? ⟨g, j, none⟩ = some (.string pp[j]) := by
  rcases h with ⟨_, rfl⟩ | ⟨g, cap, cells, rest, h1, h2, h3, h4⟩
  · exact absurd rfl hp
  · refine ⟨g, cap, h1, h2, hlt h3, fun j hj => ?_⟩
    have := cell_of_row w g j cells e (0, 0) h3
    rw [this, ← Array.getElem?_toList, h4, List.getElem?_append_left (by simpa using hj), List.getElem?_map, List.getElem?_eq_getElem hj]
    rfl
theorem Blks.strs {w0 w : World} {L : List Blk} (h : Blks w0 w L) {g cap : Nat} {pp : List ByteArray} {rest : List Value} {e : TypeId} (hm : (g, pp.map Value.string ++ rest, e) ∈ L) : StrsAt e w w0.heap.size (.slice (some ⟨g, 0, none⟩) pp.length cap) pp :=
  Or.inr ⟨g, cap, _, rest, rfl, h.new _ hm, h.has _ hm, rfl⟩
theorem Blks.perm {w0 w : World} {L L' : List Blk} (h : Blks w0 w L) (hp : L.Perm L') : Blks w0 w L' :=
  ⟨h.bel, fun x hx => h.has x (hp.symm.subset hx), fun x hx => h.new x (hp.symm.subset hx), (hp.map _).nodup_iff.1 h.nd⟩
theorem Blks.turn3 {w0 w : World} {x y z : Blk} {L : List Blk} (h : Blks w0 w (x :: y :: z :: L)) : Blks w0 w (y :: z :: x :: L) :=
  h.perm ((List.Perm.swap y x (z :: L)).trans ((List.Perm.swap z x L).cons y))
end Go.Proofs.YtgoeiflddikihaaGreatDoor.Mem
end
section
namespace Go.Proofs.YtgoeiflddikihaaGreatDoor.Mem
open Go.RowKit Go.Proofs.YtgoeiflddikihaaGreatDoorW.PrintWords
section
variable {P : Program} {ops : Array Oper} {a : Act} {w0 w : World} {K : Act → World → Prop} {Q : Exit → Act → World → Prop} {L L' : List Blk} {E : Prop}
variable {d : Option Tmp} {tt : TypeId} {pos : String} {af : Array Edge}
theorem d_alloc {ty : TypeId} {zs : Array Value} (H : Blks w0 w L) [hz : ZeroC P ty zs]
    (h : ∀ (b : Nat) (w' : World), Aside0 (Blks w0 w' ((b, zs.toList, ty) :: L)) → K (a.put d (.pointer (some ⟨b, 0, none⟩))) w') :
    if Region.wanted ⟨d, .alloc ty, tt, pos, af, none⟩ (yielded ops a.tmps) = true then Oper.wp P ⟨d, .alloc ty, tt, pos, af, none⟩ a w K Q else E := by
  rw [if_pos (by simp [Region.wanted])]
  have hz := hz.out
  unfold Oper.wp execOp
  cases hq : P.info? ty with
  | none => simp [hq] at hz
  | some i =>
    simp only [hq, Option.bind_some] at hz
    cases hv : i.zero with
    | none => simp [hv] at hz
    | some z =>
      simp only [hv, Option.map_some, Option.some.injEq] at hz
      have hrun : (Instr.alloc ty true (.tuple #[])).run P w = .ok (.pointer (some ⟨w.heap.size, 0, none⟩)) (w.alloc (.cells zs ty)) := by
        simp [Instr.alloc, zeroValue, typeInfo, hq, hv, newVar, newRow, hz]
      simp only [Sem.run_bind, hrun, Result.andThen_ok, Sem.run_pure]
      exact h _ _ ⟨H.alloc zs ty⟩
theorem d_store {ty : TypeId} {x y : Operand} {b off n : Nat} {vs : Array Value} {cs cs' : List Value} {t : TypeId} (H : Blks w0 w L)
    (hx : a.eval x = .pointer (some ⟨b, off, none⟩)) (hy : a.eval y = .agg vs) [ht : RowC P ty n] (hn : vs.size = n) (h1 : vs.all (·.oneCell') = true)
    (_hm : (b, cs, t) ∈ L) (hw : Wr cs off vs.toList cs') (hu : Up L b cs t cs' L') (h : ∀ w', Aside0 (Blks w0 w' L') → K (a.put none undef) w') :
    if Region.wanted ⟨none, .store ty x y, tt, pos, af, none⟩ (yielded ops a.tmps) = true then Oper.wp P ⟨none, .store ty x y, tt, pos, af, none⟩ a w K Q else E := by
  rw [if_pos (by simp [Region.wanted])]
  have hle := hw.len.2
  rw [Array.length_toList] at hle
  exact wp_store_mid ty x y rfl b off vs hx hy (H.there hu.mem hle) (by rw [ht.out.size, hn]) h1 (h _ ⟨H.set hw hu⟩)
theorem d_load {ty : TypeId} {x : Operand} {b off n : Nat} {cs vs : List Value} {t : TypeId} {S : World → Prop} (hw : Region.wanted ⟨d, .load ty x, tt, pos, af, none⟩ (yielded ops a.tmps) = true)
    (hx : a.eval x = .pointer (some ⟨b, off, none⟩)) (hS : ∀ w, S w → Blks w0 w L) (hm : (b, cs, t) ∈ L) [ht : RowC P ty n] (hr : Rd cs off n vs) :
    YieldsIf P ops S ⟨d, .load ty x, tt, pos, af, none⟩ (.agg vs.toArray) a := by
  obtain ⟨d', hu, hd⟩ := ht.out.row
  exact yieldsIf_load_mid hw ty x rfl b off hx vs d' (fun w h => (hS w h).range hm hr) hu hd (by rw [ht.out.size, hr.len])
end
theorem Blks.less {w0 w : World} {L L' : List Blk} (h : Blks w0 w L) (hs : L'.Sublist L) : Blks w0 w L' :=
  ⟨h.bel, fun x hx => h.has x (hs.subset hx), fun x hx => h.new x (hs.subset hx), (hs.map _).nodup h.nd⟩
end Go.Proofs.YtgoeiflddikihaaGreatDoor.Mem
end
section
namespace Go.Proofs.YtgoeiflddikihaaGreatDoor.Opens
open Go.RowKit Go.Proofs.YtgoeiflddikihaaGreatDoorW.PrintWords
abbrev kVer : Kd (Int × ByteArray × ByteArray) := Kd.pair (Kd.int .i64) (Kd.pair Kd.string Kd.string)
theorem opens_ver : Opens Tryz.prog 27 kVer (fun a => (Lit.int .i64 a.1).wf = true ∧ a.2.1.size ≤ maxLen ∧ a.2.2.size ≤ maxLen) :=
  opens_imp (opens_struct Tryz.underlying27 (by kernel_rfl)
    (from_cons (opens_int Tryz.underlying2) rfl (by kernel_rfl) (from_cons (opens_string Tryz.underlying9) rfl (by kernel_rfl) (from_last (opens_string Tryz.underlying9) rfl (by kernel_rfl))))) (fun _ h => h)
end Go.Proofs.YtgoeiflddikihaaGreatDoor.Opens
end
section
namespace Go.Proofs.YtgoeiflddikihaaGreatDoor.PFnVersion
open Go.RowKit Go.Proofs.YtgoeiflddikihaaGreatDoorW.PrintWords Go.Proofs.YtgoeiflddikihaaGreatDoorW.PrintLast Go.Proofs.YtgoeiflddikihaaGreatDoorW.PrintMore
attribute [local go_sem] max2_int min2_int max_two min_two max_three min_three max_four min_four   -- for this text's walks alone
set_option linter.unusedVariables false
set_option linter.unusedSimpArgs false
def errW : Option Int → Value
  | none => .nilIface
  | some c => .iface 267 (.int .i64 c)
theorem errW_none : errW none = .nilIface := rfl
theorem errW_some (c : Int) : errW (some c) = .iface 267 (.int .i64 c) := rfl
theorem info9 : (Tryz.prog.info? 9).map (fun i => (i.zero, i.size, i.bytes)) = some (some (.string ⟨#[]⟩), 1, 16) := by kernel_rfl
end Go.Proofs.YtgoeiflddikihaaGreatDoor.PFnVersion
end
