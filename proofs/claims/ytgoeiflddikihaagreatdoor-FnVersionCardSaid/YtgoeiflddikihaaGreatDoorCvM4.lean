/- Merged by program out of: Mem, AwakeS, VarsRow, Opens. -/
import Derived.WalkKit
import Derived.Deep.MidRow
import Derived.Great.Walk
import Derived.Below
import Derived.Lib.Hide
import Derived.Sort.Statements
import Derived.Test.YtgoeiflddikihaaGreatDoorCvM3
import Derived.Test.YtgoeiflddikihaaGreatDoorRows
import Derived.Deep.DeepHandedRow
import Derived.Lib.LaidTab
import Derived.Stop.LaidErr
import Derived.MakeChecks
import Derived.ProofKit
import Derived.Test.YtgoeiflddikihaaGreatDoorCvM0
import Derived.ChangeArms
import Derived.DataReads
section
namespace Go.Proofs.YtgoeiflddikihaaGreatDoor.Mem
open Go.RowKit
abbrev Blk := Nat × List Value × TypeId
structure Blks (w0 w : World) (L : List Blk) : Prop where
  bel : Below w0.heap.size w0 w
  has : ∀ x ∈ L, w.heap[x.1]? = some (.cells x.2.1.toArray x.2.2 (0, 0))
  new : ∀ x ∈ L, w0.heap.size ≤ x.1
  nd : (L.map (·.1)).Nodup
theorem hsz (w : World) (o : Obj) : (w.alloc o).heap.size = w.heap.size + 1 := by
  show (w.heap.push o).size = _
  simp
theorem hnew (w : World) (o : Obj) : (w.alloc o).heap[w.heap.size]? = some o := by
  show (w.heap.push o)[w.heap.size]? = _
  simp
theorem hlt {w : World} {g : Nat} {o : Obj} (h : w.heap[g]? = some o) : g < w.heap.size := (Array.getElem?_eq_some_iff.1 h).1
theorem Blks.start (w : World) : Blks w w [] := ⟨Below.refl _ _, by simp, by simp, by simp⟩
theorem Blks.call {w0 w w1 : World} {L : List Blk} (h : Blks w0 w L) (hb : Below w.heap.size w w1) : Blks w0 w1 L :=
  ⟨h.bel.trans (hb.mono h.bel.size), fun x hx => (hb.block x.1 (hlt (h.has x hx))).trans (h.has x hx), h.new, h.nd⟩
theorem Blks.drewN {w0 w : World} {L : List Blk} (h : Blks w0 w L) (n : Nat) : Blks w0 (w.drewN n) L := h.call ⟨rfl, rfl, rfl, Nat.le_refl _, fun _ _ => rfl⟩
theorem Blks.drew {w0 w : World} {L : List Blk} (h : Blks w0 w L) : Blks w0 w.drew L := h.call ⟨rfl, rfl, rfl, Nat.le_refl _, fun _ _ => rfl⟩
theorem Blks.alloc {w0 w : World} {L : List Blk} (h : Blks w0 w L) (cs : Array Value) (t : TypeId) : Blks w0 (w.alloc (.cells cs t)) ((w.heap.size, cs.toList, t) :: L) := by
  refine ⟨h.bel.alloc h.bel.size _, ?_, ?_, ?_⟩
  · intro x hx
    rcases List.mem_cons.1 hx with rfl | hx
    · exact hnew w _
    · exact (Below.heap_alloc w _ x.1 (hlt (h.has x hx))).trans (h.has x hx)
  · intro x hx
    rcases List.mem_cons.1 hx with rfl | hx
    · exact h.bel.size
    · exact h.new x hx
  · rw [List.map_cons, List.nodup_cons]
    refine ⟨?_, h.nd⟩
    intro hm
    obtain ⟨x, hx, e⟩ := List.mem_map.1 hm
    have := hlt (h.has x hx)
    simp only at e
    omega
theorem Blks.other {w0 w : World} {L : List Blk} (h : Blks w0 w L) (o : Obj) : Blks w0 (w.alloc o) L :=
  h.call ⟨rfl, rfl, rfl, by rw [hsz]; omega, fun k hk => Below.heap_alloc w o k hk⟩
theorem Blks.drop {w0 w : World} {L : List Blk} {x : Blk} (h : Blks w0 w (x :: L)) : Blks w0 w L :=
  ⟨h.bel, fun y hy => h.has y (List.mem_cons_of_mem _ hy), fun y hy => h.new y (List.mem_cons_of_mem _ hy), (List.nodup_cons.1 h.nd).2⟩
inductive Rd : List Value → Nat → Nat → List Value → Prop
  | nil {cs : List Value} : Rd cs 0 0 []
  | here {c : Value} {cs vs : List Value} {n : Nat} (h : Rd cs 0 n vs) : Rd (c :: cs) 0 (n + 1) (c :: vs)
  | skip {c : Value} {cs vs : List Value} {o n : Nat} (h : Rd cs o n vs) : Rd (c :: cs) (o + 1) n vs
theorem Rd.len {cs : List Value} {o n : Nat} {vs : List Value} (h : Rd cs o n vs) : vs.length = n := by
  induction h with
  | nil => rfl
  | here _ ih => simp [ih]
  | skip _ ih => exact ih
theorem Rd.at_ {cs : List Value} {o n : Nat} {vs : List Value} (h : Rd cs o n vs) : ∀ j v, vs[j]? = some v → cs[o + j]? = some v := by
  induction h with
  | nil => intro j v hv; simp at hv
  | here _ ih =>
    intro j v hv
    cases j with
    | zero => simpa using hv
    | succ j => simpa using ih j v (by simpa using hv)
  | skip _ ih =>
    intro j v hv
    rw [show ∀ o j : Nat, o + 1 + j = (o + j) + 1 from fun o j => by omega]
    simpa using ih j v hv
inductive Wr : List Value → Nat → List Value → List Value → Prop
  | nil {cs : List Value} : Wr cs 0 [] cs
  | here {c v : Value} {cs vs cs' : List Value} (h : Wr cs 0 vs cs') : Wr (c :: cs) 0 (v :: vs) (v :: cs')
  | skip {c : Value} {cs vs cs' : List Value} {o : Nat} (h : Wr cs o vs cs') : Wr (c :: cs) (o + 1) vs (c :: cs')
theorem Wr.len {cs : List Value} {o : Nat} {vs cs' : List Value} (h : Wr cs o vs cs') : cs'.length = cs.length ∧ o + vs.length ≤ cs.length := by
  induction h with
  | nil => simp
  | here _ ih => simp; omega
  | skip _ ih => simp; omega
theorem Wr.eq {cs : List Value} {o : Nat} {vs cs' : List Value} (h : Wr cs o vs cs') : cs' = cs.take o ++ vs ++ cs.drop (o + vs.length) := by
  induction h with
  | nil => simp
  | here _ ih => simp at ih ⊢; rw [ih]
  | skip _ ih => simp at ih ⊢; rw [ih]; simp [Nat.add_right_comm]
inductive Up : List Blk → Nat → List Value → TypeId → List Value → List Blk → Prop
  | here {b : Nat} {cs cs' : List Value} {t : TypeId} {L : List Blk} : Up ((b, cs, t) :: L) b cs t cs' ((b, cs', t) :: L)
  | skip {x : Blk} {b : Nat} {cs cs' : List Value} {t : TypeId} {L L' : List Blk} (h : Up L b cs t cs' L') : Up (x :: L) b cs t cs' (x :: L')
theorem Up.mem {L L' : List Blk} {b : Nat} {cs cs' : List Value} {t : TypeId} (h : Up L b cs t cs' L') : (b, cs, t) ∈ L := by
  induction h with
  | here => simp
  | skip _ ih => exact List.mem_cons_of_mem _ ih
theorem Up.keys {L L' : List Blk} {b : Nat} {cs cs' : List Value} {t : TypeId} (h : Up L b cs t cs' L') : L'.map (·.1) = L.map (·.1) := by
  induction h with
  | here => rfl
  | skip _ ih => simp [ih]
theorem Up.back {L L' : List Blk} {b : Nat} {cs cs' : List Value} {t : TypeId} (h : Up L b cs t cs' L') (hn : (L.map (·.1)).Nodup) : ∀ x ∈ L', x = (b, cs', t) ∨ x ∈ L ∧ x.1 ≠ b := by
  induction h with
  | here =>
    rename_i b cs cs' t L
    intro x hx
    rw [List.map_cons, List.nodup_cons] at hn
    rcases List.mem_cons.1 hx with rfl | hx
    · exact Or.inl rfl
    · refine Or.inr ⟨List.mem_cons_of_mem _ hx, fun e => hn.1 ?_⟩
      exact List.mem_map.2 ⟨x, hx, e⟩
  | skip hu ih =>
    rename_i y b cs cs' t L L'
    intro x hx
    rw [List.map_cons, List.nodup_cons] at hn
    rcases List.mem_cons.1 hx with rfl | hx
    · refine Or.inr ⟨by simp, fun e => hn.1 ?_⟩
      rw [e]; exact List.mem_map.2 ⟨_, hu.mem, rfl⟩
    · rcases ih hn.2 x hx with h | ⟨h1, h2⟩
      · exact Or.inl h
      · exact Or.inr ⟨List.mem_cons_of_mem _ h1, h2⟩
theorem heap_setCells_other (b : Nat) : ∀ (vs : List Value) (o : Nat) (w : World) (k : Nat), k ≠ b → (w.setCells b o vs).heap[k]? = w.heap[k]?
  | [], _, _, _, _ => rfl
  | v :: r, o, w, k, h => by
    rw [World.setCells, heap_setCells_other b r (o + 1) _ k h]
    exact Below.heap_setCell w ⟨b, o, none⟩ v k h
theorem heap_setCells_same (b : Nat) (t : TypeId) : ∀ (vs : List Value) (o : Nat) (w : World) (cs : Array Value), o + vs.length ≤ cs.size → w.heap[b]? = some (.cells cs t (0, 0)) →
    (w.setCells b o vs).heap[b]? = some (.cells (cs.toList.take o ++ vs ++ cs.toList.drop (o + vs.length)).toArray t (0, 0))
  | [], o, w, cs, h, hb => by rw [World.setCells]; simpa using hb
  | v :: r, o, w, cs, h, hb => by
    simp only [List.length_cons] at h
    have h1 : (w.setCell ⟨b, o, none⟩ v).heap[b]? = some (.cells (cs.setIfInBounds o v) t (0, 0)) := by simp [World.setCell, Array.getElem?_modify, hb]
    rw [World.setCells, heap_setCells_same b t r (o + 1) _ (cs.setIfInBounds o v) (by simp; omega) h1]
    congr 2
    apply Array.ext'
    have hk : o < cs.toList.length := by simp; omega
    simp only [Array.toList_setIfInBounds, List.length_cons]
    rw [List.drop_set_of_lt (by omega), List.take_set, List.take_succ_eq_append_getElem hk, List.set_append_right _ _ (by simp; omega)]
    have e : o - (List.take o cs.toList).length = 0 := by rw [List.length_take]; omega
    rw [e]
    simp [Nat.add_assoc, Nat.add_comm 1]
theorem size_setCells (b : Nat) : ∀ (vs : List Value) (o : Nat) (w : World), (w.setCells b o vs).heap.size = w.heap.size ∧ (w.setCells b o vs).os = w.os ∧ (w.setCells b o vs).tape = w.tape ∧ (w.setCells b o vs).output = w.output
  | [], _, _ => ⟨rfl, rfl, rfl, rfl⟩
  | v :: r, o, w => by
    rw [World.setCells]
    obtain ⟨h1, h2, h3, h4⟩ := size_setCells b r (o + 1) (w.setCell ⟨b, o, none⟩ v)
    exact ⟨by rw [h1]; simp [World.setCell], h2, h3, h4⟩
theorem Blks.set {w0 w : World} {L L' : List Blk} (h : Blks w0 w L) {b o : Nat} {cs vs cs' : List Value} {t : TypeId} (hw : Wr cs o vs cs') (hu : Up L b cs t cs' L') : Blks w0 (w.setCells b o vs) L' := by
  have hb := h.has _ hu.mem
  have hn := h.new _ hu.mem
  obtain ⟨s1, s2, s3, s4⟩ := size_setCells b vs o w
  refine ⟨⟨s2.trans h.bel.os, s3.trans h.bel.tape, s4.trans h.bel.output, by rw [s1]; exact h.bel.size, fun k hk => ?_⟩, ?_, ?_, by rw [hu.keys]; exact h.nd⟩
  · rw [heap_setCells_other b vs o w k (by simp only at hn; omega)]
    exact h.bel.block k hk
  · intro x hx
    rcases hu.back h.nd x hx with rfl | ⟨h1, h2⟩
    · have := heap_setCells_same b t vs o w cs.toArray (by simpa using hw.len.2) hb
      simp only at this ⊢
      rw [this, hw.eq]
    · rw [heap_setCells_other b vs o w x.1 h2]
      exact h.has x h1
  · intro x hx
    have hk : x.1 ∈ L'.map (·.1) := List.mem_map.2 ⟨x, hx, rfl⟩
    rw [hu.keys] at hk
    obtain ⟨y, hy, e⟩ := List.mem_map.1 hk
    rw [← e]; exact h.new y hy
theorem Blks.range {w0 w : World} {L : List Blk} (h : Blks w0 w L) {b o n : Nat} {cs vs : List Value} {t : TypeId} (hm : (b, cs, t) ∈ L) (hr : Rd cs o n vs) : w.rangeAt b o vs := by
  intro j v hv
  have hb := h.has _ hm
  have := cell_of_row w b (o + j) cs.toArray t (0, 0) hb
  rw [this]
  simpa using hr.at_ j v hv
theorem Blks.there {w0 w : World} {L : List Blk} (h : Blks w0 w L) {b o n : Nat} {cs : List Value} {t : TypeId} (hm : (b, cs, t) ∈ L) (hn : o + n ≤ cs.length) : w.there b o n := by
  intro j hj
  have hb := h.has _ hm
  have hc := cell_of_row w b (o + j) cs.toArray t (0, 0) hb
  refine ⟨?_, by simp [World.frozen?, hb]⟩
  rw [hc]
  simp; omega
theorem Blks.cell {w0 w : World} {L : List Blk} (h : Blks w0 w L) {b o : Nat} {cs : List Value} {v : Value} {t : TypeId} (hm : (b, cs, t) ∈ L) (hr : Rd cs o 1 [v]) : w.cell? ⟨b, o, none⟩ = some v := h.range hm hr 0 v rfl
section ops
variable {P : Program} {ops : Array Oper} {rest : List Oper} {o : Oper} {a : Act} {w0 w : World} {Q : Exit → Act → World → Prop} {L L' : List Blk}
structure RowT (P : Program) (ty : TypeId) (n : Nat) : Prop where
  row : ∃ d, P.underlying ty = some d ∧ d.isRow = true
  size : (P.info? ty).map (·.size) = some n
structure OneT (P : Program) (ty : TypeId) : Prop where
  row : ∃ d, P.underlying ty = some d ∧ d.isRow = false
  size : (P.info? ty).map (·.size) = some 1
theorem bk_load (hg : o.guard = none) {ty : TypeId} {x : Operand} (ho : o.op = .load ty x) {b off : Nat} (hx : a.eval x = .pointer (some ⟨b, off, none⟩)) (H : Blks w0 w L) {cs : List Value} {t : TypeId} (hm : (b, cs, t) ∈ L)
    {n : Nat} (ht : RowT P ty n) {vs : List Value} (hr : Rd cs off n vs) (h : wpList P ops Q rest (a.put o.dst (.agg vs.toArray)) w) : wpList P ops Q (o :: rest) a w := by
  obtain ⟨d, hu, hd⟩ := ht.row
  exact wpList_load_mid hg ty x ho b off hx vs d (H.range hm hr) hu hd (by rw [ht.size, hr.len]) h
theorem bk_load1 (hg : o.guard = none) {ty : TypeId} {x : Operand} (ho : o.op = .load ty x) {b off : Nat} (hx : a.eval x = .pointer (some ⟨b, off, none⟩)) (H : Blks w0 w L) {cs : List Value} {t : TypeId} (hm : (b, cs, t) ∈ L)
    (ht : OneT P ty) {v : Value} (hr : Rd cs off 1 [v]) (h : wpList P ops Q rest (a.put o.dst v) w) : wpList P ops Q (o :: rest) a w := by
  obtain ⟨d, hu, hd⟩ := ht.row
  have hc : w.cell? ⟨b, off, none⟩ = some v := (H.range hm hr) 0 v rfl
  refine wpList_plain hg fun K hK => ?_
  unfold Oper.wp execOp
  have hrun : (loadVar ty ⟨b, off, none⟩).run P w = .ok v w := by
    have hs := ht.size
    cases hq : P.info? ty with
    | none => simp [hq] at hs
    | some i =>
      have hs : i.size = 1 := by simpa [hq] using hs
      cases d <;> first
        | (simp [TypeDesc.isRow] at hd; done)
        | (simp [loadVar, isAgg, sizeOf, typeInfo, hq, hs, run_underlying hu, hc, loadCells, go_sem]; done)
  simp only [ho, hx, Instr.loadAt, Instr.sureAddr, Sem.run_bind, Sem.run_pure, Result.andThen_ok, hrun]
  exact hK _ _ h
theorem bk_store (hg : o.guard = none) {ty : TypeId} {x y : Operand} (ho : o.op = .store ty x y) (hd : o.dst = none) {b off : Nat} (hx : a.eval x = .pointer (some ⟨b, off, none⟩)) {vs : Array Value} (hy : a.eval y = .agg vs) (H : Blks w0 w L)
    {n : Nat} (ht : RowT P ty n) (hn : vs.size = n) (h1 : vs.all (·.oneCell') = true) {cs cs' : List Value} {t : TypeId} (_hm : (b, cs, t) ∈ L) (hw : Wr cs off vs.toList cs') (hu : Up L b cs t cs' L')
    (h : ∀ w', Blks w0 w' L' → wpList P ops Q rest a w') : wpList P ops Q (o :: rest) a w := by
  have hle := hw.len.2
  rw [Array.length_toList] at hle
  refine wpList_store_mid hg ty x y ho b off vs hx hy (H.there hu.mem hle) (by rw [ht.size, hn]) h1 ?_
  rw [hd]
  exact h _ (H.set hw hu)
theorem bk_store1 (hg : o.guard = none) {ty : TypeId} {x y : Operand} (ho : o.op = .store ty x y) (hd : o.dst = none) {b off : Nat} (hx : a.eval x = .pointer (some ⟨b, off, none⟩)) {v : Value} (hy : a.eval y = v) (H : Blks w0 w L)
    (ht : OneT P ty) (h1 : v.oneCell' = true) {cs cs' : List Value} {t : TypeId} (_hm : (b, cs, t) ∈ L) (hw : Wr cs off [v] cs') (hu : Up L b cs t cs' L')
    (h : ∀ w', Blks w0 w' L' → wpList P ops Q rest a w') : wpList P ops Q (o :: rest) a w := by
  have hle := hw.len.2
  have hth := H.there (n := 1) hu.mem hle
  obtain ⟨h0, h2⟩ := hth 0 (by omega)
  refine wpList_plain hg fun K hK => ?_
  unfold Oper.wp execOp
  obtain ⟨old, hold⟩ := Option.isSome_iff_exists.1 h0
  rw [Nat.add_zero] at hold h2
  have hrun : (storeVar ty ⟨b, off, none⟩ v).run P w = .ok () (w.setCells b off [v]) := by
    have hs := ht.size
    have hcv : v.cells = #[v] := by cases v <;> first | rfl | cases h1
    have hst := run_storeCells_cells (P := P) b off [v] 0 w (fun j hj => by
      have : j = 0 := by simpa using hj
      subst this
      simpa using h0) (fun j hj => by
      have : j = 0 := by simpa using hj
      subst this
      simpa using h2) (fun u hu => by simp at hu; subst hu; exact h1)
    cases hq : P.info? ty with
    | none => simp [hq] at hs
    | some i =>
      have hs : i.size = 1 := by simpa [hq] using hs
      simp only [Nat.add_zero] at hst
      simp [storeVar, sizeOf, typeInfo, hq, hcv, hs, hst]
  simp only [ho, hx, hy, Instr.storeAt, Instr.sureAddr, Sem.run_bind, Sem.run_pure, Result.andThen_ok, hrun]
  rw [Oper.upon_skip, hd]
  exact hK _ _ (h _ (H.set hw hu))
theorem bk_alloc (hg : o.guard = none) {ty : TypeId} (ho : o.op = .alloc ty) (H : Blks w0 w L) {zs : Array Value} (hz : (P.info? ty).bind (fun i => i.zero.map (·.cells)) = some zs)
    (h : ∀ (b : Nat) (w' : World), Blks w0 w' ((b, zs.toList, ty) :: L) → wpList P ops Q rest (a.put o.dst (.pointer (some ⟨b, 0, none⟩))) w') : wpList P ops Q (o :: rest) a w := by
  refine wpList_plain hg fun K hK => ?_
  unfold Oper.wp execOp
  cases hq : P.info? ty with
  | none => simp [hq] at hz
  | some i =>
    simp only [hq, Option.bind_some] at hz
    cases hv : i.zero with
    | none => simp [hv] at hz
    | some z =>
      simp only [hv, Option.map_some, Option.some.injEq] at hz
      have hrun : (Instr.alloc ty true (.tuple #[])).run P w = .ok (.pointer (some ⟨w.heap.size, 0, none⟩)) (w.alloc (.cells zs ty)) := by
        simp [Instr.alloc, zeroValue, typeInfo, hq, hv, newVar, newRow, hz]
      simp only [ho, Sem.run_bind, hrun, Result.andThen_ok, Sem.run_pure]
      exact hK _ _ (h _ _ (H.alloc zs ty))
theorem bk_box (hg : o.guard = none) {ty : TypeId} {x : Operand} (ho : o.op = .box ty x) (H : Blks w0 w L) {cs : Array Value} (hx : a.eval x = .agg cs)
    (h : ∀ (b : Nat) (w' : World), Blks w0 w' ((b, cs.toList, ty) :: L) → wpList P ops Q rest (a.put o.dst (.pointer (some ⟨b, 0, none⟩))) w') : wpList P ops Q (o :: rest) a w :=
  Great.wpList_boxTo hg ty x ho o.dst rfl w.heap.size rfl cs (by rw [hx]; rfl) (h _ _ (H.alloc cs ty))
theorem bk_slice (hg : o.guard = none) {t e : TypeId} {len : Nat} {parts : Array (Nat × Operand)} (ho : o.op = .buildSlice t len parts) (H : Blks w0 w L) (hu : P.underlying t = some (.slice e)) {cells : Array Value}
    (hf : P.builtSlice e len (parts.map fun (i, x) => (i, a.eval x)).toList = some cells)
    (h : ∀ (b : Nat) (w' : World), Blks w0 w' ((b, cells.toList, e) :: L) → wpList P ops Q rest (a.put o.dst (.slice (some ⟨b, 0, none⟩) len len)) w') : wpList P ops Q (o :: rest) a w :=
  Great.wpList_buildSliceTo hg t e len parts ho w.heap.size rfl o.dst rfl hu cells hf (h _ _ (H.alloc cells e))
theorem bk_build (hg : o.guard = none) {t : TypeId} {parts : Array (Nat × Operand)} (ho : o.op = .build t parts) {cells : Array Value} (hf : P.built t (parts.map fun (i, x) => (i, a.eval x)).toList = some cells)
    (h : wpList P ops Q rest (a.put o.dst (.agg cells)) w) : wpList P ops Q (o :: rest) a w := wpList_buildTo hg t parts ho o.dst rfl cells hf h
theorem Blks.row (h : Blks w0 w L) {b n size : Nat} {cs : List Value} {e : TypeId} (hm : (b, cs, e) ∈ L) (hl : cs.length = n * size) (hn : n ≤ maxLen) : w.ownsRow w0.heap.size e size (.slice (some ⟨b, 0, none⟩) n n) n cs :=
  ⟨hl, Or.inr ⟨b, n, cs.toArray, rfl, h.new _ hm, h.has _ hm, Nat.le_refl _, hn, by simpa using hl, by simp [List.take_of_length_le (Nat.le_of_eq hl)]⟩⟩
end ops
end Go.Proofs.YtgoeiflddikihaaGreatDoor.Mem
end
section
namespace Go.Proofs.YtgoeiflddikihaaGreatDoor.Awk
open Go.Sort
theorem three {α : Type} [Inhabited α] {lt : α → α → Bool} (h : SWO lt) {c0 c1 c2 : α} (h21 : lt c2 c1 = true) (h20 : lt c2 c0 = true) (h10 : lt c1 c0 = true) {d' : Array α} (hp : PermIn 0 3 #[c0, c1, c2] d') (hs : SortedIn lt 0 3 d') :
    d' = #[c2, c1, c0] := by
  obtain ⟨hsz, _, hpm⟩ := hp
  have hsz3 : d'.size = 3 := hsz
  obtain ⟨l⟩ := d'
  have hl : l.length = 3 := hsz3
  match l, hl with
  | [x, y, z], _ =>
    have hpm' : [x, y, z].Perm [c0, c1, c2] := by simpa using hpm
    have s1 : lt y x = false := by simpa using hs 0 1 (by omega) (by omega) (by omega)
    have s2 : lt z x = false := by simpa using hs 0 2 (by omega) (by omega) (by omega)
    have s3 : lt z y = false := by simpa using hs 1 2 (by omega) (by omega) (by omega)
    have n01 : c0 ≠ c1 := fun e => by rw [e, h.irrefl] at h10; cases h10
    have n02 : c0 ≠ c2 := fun e => by rw [e, h.irrefl] at h20; cases h20
    have n12 : c1 ≠ c2 := fun e => by rw [e, h.irrefl] at h21; cases h21
    have hx : x ∈ [c0, c1, c2] := hpm'.mem_iff.1 (by simp)
    have hy : y ∈ [c0, c1, c2] := hpm'.mem_iff.1 (by simp)
    have hz : z ∈ [c0, c1, c2] := hpm'.mem_iff.1 (by simp)
    have k0 : c0 ∈ [x, y, z] := hpm'.mem_iff.2 (by simp)
    have k1 : c1 ∈ [x, y, z] := hpm'.mem_iff.2 (by simp)
    have k2 : c2 ∈ [x, y, z] := hpm'.mem_iff.2 (by simp)
    simp only [List.mem_cons, List.not_mem_nil, or_false] at hx hy hz
    rcases hx with rfl | rfl | rfl <;> rcases hy with rfl | rfl | rfl <;> rcases hz with rfl | rfl | rfl <;>
      first
        | rfl
        | (exfalso; simp [n01, n02, n12, n01.symm, n02.symm, n12.symm] at k0 k1 k2; done)
        | (exfalso; simp_all; done)
end Go.Proofs.YtgoeiflddikihaaGreatDoor.Awk
end
section
namespace Go.Proofs.YtgoeiflddikihaaGreatDoor.VarsRow
open Go.RowKit Go.Proofs.YtgoeiflddikihaaGreatDoor.Dig
theorem own : ownKnob Tryz.prog.godebug = none := by kernel_rfl
theorem laidOut : laidOutB Tryz.prog = true := by kernel_rfl
def laid5 {H : Type} : List (String × DataW H) := [("math/bits.deBruijn32tab", Rows.laid_math_bits_deBruijn32tab), ("math/bits.deBruijn64tab", Rows.laid_math_bits_deBruijn64tab), ("internal/strconv.uint64pow10", Rows.laid_internal_strconv_uint64pow10), ("strconv.ErrRange", Rows.laid_strconv_ErrRange), ("strconv.ErrSyntax", Rows.laid_strconv_ErrSyntax)]
theorem gPow : Tryz.prog.globalNamed "internal/strconv.uint64pow10" = some 2 := by kernel_rfl
theorem gPowType : (Tryz.prog.globals[2]?).map (·.type) = some 282 := by kernel_rfl
theorem cPow : Tryz.prog.cellsOf 282 = 20 := by kernel_rfl
theorem cU64 : Tryz.prog.cellsOf 46 = 1 := by kernel_rfl
theorem gRng : Tryz.prog.globalNamed "strconv.ErrRange" = some 1 := by kernel_rfl
theorem gSyn : Tryz.prog.globalNamed "strconv.ErrSyntax" = some 0 := by kernel_rfl
theorem gRngType : (Tryz.prog.globals[1]?).map (·.type) = some 166 := by kernel_rfl
theorem gSynType : (Tryz.prog.globals[0]?).map (·.type) = some 166 := by kernel_rfl
theorem powData {H : Type} : (Rows.laid_internal_strconv_uint64pow10 : DataW H) = Lib.tabData .u64 Lib.pow10Tab := by rfl
theorem cErr : Tryz.prog.cellsOf 262 = 1 := by kernel_rfl
theorem cStr : Tryz.prog.cellsOf 9 = 1 := by kernel_rfl
theorem star : "*" ++ "errors.errorString" = "*errors.errorString" := by decide
theorem errName (u : TypeId) (h : Tryz.prog.typeName? 3 u = some "*errors.errorString") : u = 260 :=
  typeName_ptr_named (nm := "errors.errorString") (by rw [star]; kernel_rfl) (by kernel_rfl) (by decide) u (by rw [star]; exact h)
theorem vars_of {W : World} (h : laidMetH Tryz.prog laid5 W) : Vars W := by
  rw [Go.MakeChecks.laidMetH_plain _ _ _ (by kernel_rfl)] at h
  have h3 : laidMet Tryz.prog (("internal/strconv.uint64pow10", Lib.tabData .u64 Lib.pow10Tab) :: [("strconv.ErrRange", Rows.laid_strconv_ErrRange), ("strconv.ErrSyntax", Rows.laid_strconv_ErrSyntax)]) W := by
    have := h.tail.tail
    rw [powData] at this
    exact this
  have h4 := h.tail.tail.tail
  have h5 := h4.tail
  obtain ⟨a1, s1, hv1, _⟩ := laid_sentinel h4 gRng gRngType Tryz.underlying166 errName Tryz.underlying260 Tryz.underlying262 rfl rfl Tryz.underlying9 cErr cStr
  obtain ⟨a2, s2, hv2, _⟩ := laid_sentinel h5 gSyn gSynType Tryz.underlying166 errName Tryz.underlying260 Tryz.underlying262 rfl rfl Tryz.underlying9 cErr cStr
  exact ⟨⟨_, _, hv2⟩, ⟨_, _, hv1⟩, Lib.tabIs_of_head gPow gPowType Tryz.underlying282 Tryz.underlying46 cU64 cPow h3⟩
abbrev synS : ByteArray := { data := #[105, 110, 118, 97, 108, 105, 100, 32, 115, 121, 110, 116, 97, 120] }
abbrev rngS : ByteArray := { data := #[118, 97, 108, 117, 101, 32, 111, 117, 116, 32, 111, 102, 32, 114, 97, 110, 103, 101] }
noncomputable def low : Nat := (World.holding Tryz.prog default ⟨#[], #[], []⟩).heap.size
def cellsOfData : DataW Unit → Array Value
  | .agg l => (l.map fun | .lit (.int k n) => Value.int k n | _ => .nilFunc).toArray
  | _ => #[]
def setTo (cs : Array Value) : Obj → Obj
  | .cells _ t frozen => .cells cs t frozen
  | o => o
noncomputable def laidWorld (os : Os) : World :=
  let w0 := World.holding Tryz.prog os ⟨#[.cells #[.string synS] 262, .cells #[.string rngS] 262], #[], []⟩
  { w0 with heap := ((((w0.heap.modify 0 (setTo #[.iface 260 (.pointer (some ⟨low, 0, none⟩))])).modify 1 (setTo #[.iface 260 (.pointer (some ⟨low + 1, 0, none⟩))])).modify 2 (setTo (cellsOfData Rows.laid_internal_strconv_uint64pow10))).modify 3 (setTo (cellsOfData Rows.laid_math_bits_deBruijn32tab))).modify 4 (setTo (cellsOfData Rows.laid_math_bits_deBruijn64tab)) }
theorem laid_met (os : Os) (args : Array Value) : laidMet Tryz.prog laid5 ((laidWorld os).forCall (fun _ _ => 0) ⟨#[], args, []⟩).memory :=
  laidMet_of_run' 8 (by kernel_rfl) (by kernel_rfl)
end Go.Proofs.YtgoeiflddikihaaGreatDoor.VarsRow
end
section
namespace Go.Proofs.YtgoeiflddikihaaGreatDoor.Opens
open Go.RowKit Go.Proofs.YtgoeiflddikihaaGreatDoorW.PrintWords
def Opens {α : Type} (P : Program) (t : TypeId) (d : Kd α) (good : α → Prop) : Prop :=
  ∀ (H : Type) (enc : TypeId × Value → H) (w : World) (base : Nat) (spare : Nat → Bool) (held : Bool) (fuel : Nat) (cs : List Value) (x : DataW H × List MemPlace),
    DataW.trod enc P w base spare held fuel t cs = some x → ∃ a, d.K w a cs ∧ good a
theorem opens_int {P : Program} {t : TypeId} {k : IntKind} (ht : P.underlying t = some (.int k)) : Opens P t (Kd.int k) (fun n => (Lit.int k n).wf = true) := by
  intro H enc w base spare held fuel cs x h
  obtain ⟨n, rfl, _, hn⟩ := DataW.trod_int ht h
  exact ⟨n, rfl, hn⟩
theorem opens_string {P : Program} {t : TypeId} (ht : P.underlying t = some .string) : Opens P t Kd.string (fun s => s.size ≤ maxLen) := by
  intro H enc w base spare held fuel cs x h
  obtain ⟨n, rfl, _, hn⟩ := DataW.trod_string ht h
  exact ⟨n, rfl, hn⟩
def OpensFrom {α : Type} (P : Program) (off : Nat) (fs : List Field) (d : Kd α) (good : α → Prop) : Prop :=
  ∀ (H : Type) (enc : TypeId × Value → H) (w : World) (base : Nat) (spare : Nat → Bool) (held : Bool) (fuel : Nat) (cs : List Value), off + d.sz = cs.length →
    (∀ f ∈ fs, ∃ y, DataW.trod enc P w base spare held fuel f.type ((cs.drop f.offset).take (P.cellsOf f.type)) = some y) → ∃ a, d.K w a (cs.drop off) ∧ good a
theorem from_last {α : Type} {P : Program} {off : Nat} {f : Field} {d : Kd α} {good : α → Prop} (h : Opens P f.type d good) (ho : f.offset = off) (hs : P.cellsOf f.type = d.sz) : OpensFrom P off [f] d good := by
  intro H enc w base spare held fuel cs hl hf
  obtain ⟨y, hy⟩ := hf f (by simp)
  rw [ho, hs, List.take_of_length_le (by rw [List.length_drop]; omega)] at hy
  exact h H enc w base spare held fuel _ y hy
theorem from_cons {α β : Type} {P : Program} {off : Nat} {f : Field} {fs : List Field} {d : Kd α} {e : Kd β} {good : α → Prop} {good' : β → Prop} (h : Opens P f.type d good) (ho : f.offset = off) (hs : P.cellsOf f.type = d.sz)
    (h' : OpensFrom P (off + d.sz) fs e good') : OpensFrom P off (f :: fs) (Kd.pair d e) (fun a => good a.1 ∧ good' a.2) := by
  intro H enc w base spare held fuel cs hl hf
  have hl' : off + (d.sz + e.sz) = cs.length := hl
  obtain ⟨y, hy⟩ := hf f (by simp)
  rw [ho, hs] at hy
  obtain ⟨a, ha, ga⟩ := h H enc w base spare held fuel _ y hy
  obtain ⟨b, hb, gb⟩ := h' H enc w base spare held fuel cs (by omega) (fun g hg => hf g (by simp [hg]))
  refine ⟨(a, b), ⟨_, _, ?_, ha, hb⟩, ga, gb⟩
  rw [← List.drop_drop, List.take_append_drop]
theorem opens_struct {α : Type} {P : Program} {t : TypeId} {fs : Array Field} {d : Kd α} {good : α → Prop} (ht : P.underlying t = some (.struct fs)) (hs : P.cellsOf t = d.sz) (h : OpensFrom P 0 fs.toList d good) : Opens P t d good := by
  intro H enc w base spare held fuel cs x hx
  obtain ⟨xs, n, rfl, _, hl, hxs, hf⟩ := DataW.trod_struct ht hx
  refine h H enc w base spare held n cs (by omega) (fun f hf' => ?_)
  obtain ⟨i, hi, rfl⟩ := List.mem_iff_getElem.1 hf'
  have hi' : i < fs.size := by simpa using hi
  have hg := hf i fs[i] (Array.getElem?_eq_getElem hi')
  rw [List.getElem?_eq_getElem (by omega)] at hg
  exact ⟨_, by simpa using hg⟩
theorem opens_imp {α : Type} {P : Program} {t : TypeId} {d : Kd α} {good good' : α → Prop} (h : Opens P t d good) (hg : ∀ a, good a → good' a) : Opens P t d good' := by
  intro H enc w base spare held fuel cs x hx
  obtain ⟨a, ha, ga⟩ := h H enc w base spare held fuel cs x hx
  exact ⟨a, ha, hg a ga⟩
end Go.Proofs.YtgoeiflddikihaaGreatDoor.Opens
end
