/- Merged by program out of: Mem, VPb, AwakeB. -/
import Derived.WalkKit
import Derived.Deep.MidRow
import Derived.Great.Walk
import Derived.Below
import Derived.Lib.Hide
import Derived.Test.YtgoeiflddikihaaGreatDoorCtM4
import Derived.Test.YtgoeiflddikihaaGreatDoorCtM12
section
namespace Go.Proofs.YtgoeiflddikihaaGreatDoor.Mem
open Go.RowKit

/-- A block of the call's own: its number, its cells, its type. -/
abbrev Blk := Nat × List Value × TypeId
structure Blks (w0 w : World) (L : List Blk) : Prop where
  bel : Below w0.heap.size w0 w
  has : ∀ x ∈ L, w.heap[x.1]? = some (.cells x.2.1.toArray x.2.2 (0, 0))
  new : ∀ x ∈ L, w0.heap.size ≤ x.1
  nd : (L.map (·.1)).Nodup
theorem hsz (w : World) (o : Obj) : (w.alloc o).heap.size = w.heap.size + 1 := by
  show (w.heap.push o).size = _
  simp
theorem hnew (w : World) (o : Obj) : (w.alloc o).heap[w.heap.size]? = some o := by
  show (w.heap.push o)[w.heap.size]? = _
  simp
theorem hlt {w : World} {g : Nat} {o : Obj} (h : w.heap[g]? = some o) : g < w.heap.size := (Array.getElem?_eq_some_iff.1 h).1
theorem Blks.start (w : World) : Blks w w [] := ⟨Below.refl _ _, by simp, by simp, by simp⟩
theorem Blks.call {w0 w w1 : World} {L : List Blk} (h : Blks w0 w L) (hb : Below w.heap.size w w1) : Blks w0 w1 L :=
  ⟨h.bel.trans (hb.mono h.bel.size), fun x hx => (hb.block x.1 (hlt (h.has x hx))).trans (h.has x hx), h.new, h.nd⟩
theorem Blks.drewN {w0 w : World} {L : List Blk} (h : Blks w0 w L) (n : Nat) : Blks w0 (w.drewN n) L := h.call ⟨rfl, rfl, rfl, Nat.le_refl _, fun _ _ => rfl⟩
theorem Blks.drew {w0 w : World} {L : List Blk} (h : Blks w0 w L) : Blks w0 w.drew L := h.call ⟨rfl, rfl, rfl, Nat.le_refl _, fun _ _ => rfl⟩
theorem Blks.alloc {w0 w : World} {L : List Blk} (h : Blks w0 w L) (cs : Array Value) (t : TypeId) : Blks w0 (w.alloc (.cells cs t)) ((w.heap.size, cs.toList, t) :: L) := by
  refine ⟨h.bel.alloc h.bel.size _, ?_, ?_, ?_⟩
  · intro x hx
    rcases List.mem_cons.1 hx with rfl | hx
    · exact hnew w _
    · exact (Below.heap_alloc w _ x.1 (hlt (h.has x hx))).trans (h.has x hx)
  · intro x hx
    rcases List.mem_cons.1 hx with rfl | hx
    · exact h.bel.size
    · exact h.new x hx
  · rw [List.map_cons, List.nodup_cons]
    refine ⟨?_, h.nd⟩
    intro hm
    obtain ⟨x, hx, e⟩ := List.mem_map.1 hm
    have := hlt (h.has x hx)
    simp only at e
    omega
/-- A new block that this list does not keep. -/
theorem Blks.other {w0 w : World} {L : List Blk} (h : Blks w0 w L) (o : Obj) : Blks w0 (w.alloc o) L :=
  h.call ⟨rfl, rfl, rfl, by rw [hsz]; omega, fun k hk => Below.heap_alloc w o k hk⟩
theorem Blks.drop {w0 w : World} {L : List Blk} {x : Blk} (h : Blks w0 w (x :: L)) : Blks w0 w L :=
  ⟨h.bel, fun y hy => h.has y (List.mem_cons_of_mem _ hy), fun y hy => h.new y (List.mem_cons_of_mem _ hy), (List.nodup_cons.1 h.nd).2⟩

/-! Cells read, cells written. -/
inductive Rd : List Value → Nat → Nat → List Value → Prop
  | nil {cs : List Value} : Rd cs 0 0 []
  | here {c : Value} {cs vs : List Value} {n : Nat} (h : Rd cs 0 n vs) : Rd (c :: cs) 0 (n + 1) (c :: vs)
  | skip {c : Value} {cs vs : List Value} {o n : Nat} (h : Rd cs o n vs) : Rd (c :: cs) (o + 1) n vs
theorem Rd.len {cs : List Value} {o n : Nat} {vs : List Value} (h : Rd cs o n vs) : vs.length = n := by
  induction h with
  | nil => rfl
  | here _ ih => simp [ih]
  | skip _ ih => exact ih
theorem Rd.at_ {cs : List Value} {o n : Nat} {vs : List Value} (h : Rd cs o n vs) : ∀ j v, vs[j]? = some v → cs[o + j]? = some v := by
  induction h with
  | nil => intro j v hv; simp at hv
  | here _ ih =>
    intro j v hv
    cases j with
    | zero => simpa using hv
    | succ j => simpa using ih j v (by simpa using hv)
  | skip _ ih =>
    intro j v hv
    rw [show ∀ o j : Nat, o + 1 + j = (o + j) + 1 from fun o j => by omega]
    simpa using ih j v hv
inductive Wr : List Value → Nat → List Value → List Value → Prop
  | nil {cs : List Value} : Wr cs 0 [] cs
  | here {c v : Value} {cs vs cs' : List Value} (h : Wr cs 0 vs cs') : Wr (c :: cs) 0 (v :: vs) (v :: cs')
  | skip {c : Value} {cs vs cs' : List Value} {o : Nat} (h : Wr cs o vs cs') : Wr (c :: cs) (o + 1) vs (c :: cs')
theorem Wr.len {cs : List Value} {o : Nat} {vs cs' : List Value} (h : Wr cs o vs cs') : cs'.length = cs.length ∧ o + vs.length ≤ cs.length := by
  induction h with
  | nil => simp
  | here _ ih => simp; omega
  | skip _ ih => simp; omega
theorem Wr.eq {cs : List Value} {o : Nat} {vs cs' : List Value} (h : Wr cs o vs cs') : cs' = cs.take o ++ vs ++ cs.drop (o + vs.length) := by
  induction h with
  | nil => simp
  | here _ ih => simp at ih ⊢; rw [ih]
  | skip _ ih => simp at ih ⊢; rw [ih]; simp [Nat.add_right_comm]
inductive Up : List Blk → Nat → List Value → TypeId → List Value → List Blk → Prop
  | here {b : Nat} {cs cs' : List Value} {t : TypeId} {L : List Blk} : Up ((b, cs, t) :: L) b cs t cs' ((b, cs', t) :: L)
  | skip {x : Blk} {b : Nat} {cs cs' : List Value} {t : TypeId} {L L' : List Blk} (h : Up L b cs t cs' L') : Up (x :: L) b cs t cs' (x :: L')
theorem Up.mem {L L' : List Blk} {b : Nat} {cs cs' : List Value} {t : TypeId} (h : Up L b cs t cs' L') : (b, cs, t) ∈ L := by
  induction h with
  | here => simp
  | skip _ ih => exact List.mem_cons_of_mem _ ih
theorem Up.keys {L L' : List Blk} {b : Nat} {cs cs' : List Value} {t : TypeId} (h : Up L b cs t cs' L') : L'.map (·.1) = L.map (·.1) := by
  induction h with
  | here => rfl
  | skip _ ih => simp [ih]
theorem Up.back {L L' : List Blk} {b : Nat} {cs cs' : List Value} {t : TypeId} (h : Up L b cs t cs' L') (hn : (L.map (·.1)).Nodup) : ∀ x ∈ L', x = (b, cs', t) ∨ x ∈ L ∧ x.1 ≠ b := by
  induction h with
  | here =>
    rename_i b cs cs' t L
    intro x hx
    rw [List.map_cons, List.nodup_cons] at hn
    rcases List.mem_cons.1 hx with rfl | hx
    · exact Or.inl rfl
    · refine Or.inr ⟨List.mem_cons_of_mem _ hx, fun e => hn.1 ?_⟩
      exact List.mem_map.2 ⟨x, hx, e⟩
  | skip hu ih =>
    rename_i y b cs cs' t L L'
    intro x hx
    rw [List.map_cons, List.nodup_cons] at hn
    rcases List.mem_cons.1 hx with rfl | hx
    · refine Or.inr ⟨by simp, fun e => hn.1 ?_⟩
      rw [e]; exact List.mem_map.2 ⟨_, hu.mem, rfl⟩
    · rcases ih hn.2 x hx with h | ⟨h1, h2⟩
      · exact Or.inl h
      · exact Or.inr ⟨List.mem_cons_of_mem _ h1, h2⟩

theorem heap_setCells_other (b : Nat) : ∀ (vs : List Value) (o : Nat) (w : World) (k : Nat), k ≠ b → (w.setCells b o vs).heap[k]? = w.heap[k]?
  | [], _, _, _, _ => rfl
  | v :: r, o, w, k, h => by
    rw [World.setCells, heap_setCells_other b r (o + 1) _ k h]
    exact Below.heap_setCell w ⟨b, o, none⟩ v k h
theorem heap_setCells_same (b : Nat) (t : TypeId) : ∀ (vs : List Value) (o : Nat) (w : World) (cs : Array Value), o + vs.length ≤ cs.size → w.heap[b]? = some (.cells cs t (0, 0)) →
    (w.setCells b o vs).heap[b]? = some (.cells (cs.toList.take o ++ vs ++ cs.toList.drop (o + vs.length)).toArray t (0, 0))
  | [], o, w, cs, h, hb => by rw [World.setCells]; simpa using hb
  | v :: r, o, w, cs, h, hb => by
    simp only [List.length_cons] at h
    have h1 : (w.setCell ⟨b, o, none⟩ v).heap[b]? = some (.cells (cs.setIfInBounds o v) t (0, 0)) := by simp [World.setCell, Array.getElem?_modify, hb]
    rw [World.setCells, heap_setCells_same b t r (o + 1) _ (cs.setIfInBounds o v) (by simp; omega) h1]
    congr 2
    apply Array.ext'
    have hk : o < cs.toList.length := by simp; omega
    simp only [Array.toList_setIfInBounds, List.length_cons]
    rw [List.drop_set_of_lt (by omega), List.take_set, List.take_succ_eq_append_getElem hk, List.set_append_right _ _ (by simp; omega)]
    have e : o - (List.take o cs.toList).length = 0 := by rw [List.length_take]; omega
    rw [e]
    simp [Nat.add_assoc, Nat.add_comm 1]
theorem size_setCells (b : Nat) : ∀ (vs : List Value) (o : Nat) (w : World), (w.setCells b o vs).heap.size = w.heap.size ∧ (w.setCells b o vs).os = w.os ∧ (w.setCells b o vs).tape = w.tape ∧ (w.setCells b o vs).output = w.output
  | [], _, _ => ⟨rfl, rfl, rfl, rfl⟩
  | v :: r, o, w => by
    rw [World.setCells]
    obtain ⟨h1, h2, h3, h4⟩ := size_setCells b r (o + 1) (w.setCell ⟨b, o, none⟩ v)
    exact ⟨by rw [h1]; simp [World.setCell], h2, h3, h4⟩
theorem Blks.set {w0 w : World} {L L' : List Blk} (h : Blks w0 w L) {b o : Nat} {cs vs cs' : List Value} {t : TypeId} (hw : Wr cs o vs cs') (hu : Up L b cs t cs' L') : Blks w0 (w.setCells b o vs) L' := by
  have hb := h.has _ hu.mem
  have hn := h.new _ hu.mem
  obtain ⟨s1, s2, s3, s4⟩ := size_setCells b vs o w
  refine ⟨⟨s2.trans h.bel.os, s3.trans h.bel.tape, s4.trans h.bel.output, by rw [s1]; exact h.bel.size, fun k hk => ?_⟩, ?_, ?_, by rw [hu.keys]; exact h.nd⟩
  · rw [heap_setCells_other b vs o w k (by simp only at hn; omega)]
    exact h.bel.block k hk
  · intro x hx
    rcases hu.back h.nd x hx with rfl | ⟨h1, h2⟩
    · have := heap_setCells_same b t vs o w cs.toArray (by simpa using hw.len.2) hb
      simp only at this ⊢
      rw [this, hw.eq]
    · rw [heap_setCells_other b vs o w x.1 h2]
      exact h.has x h1
  · intro x hx
    have hk : x.1 ∈ L'.map (·.1) := List.mem_map.2 ⟨x, hx, rfl⟩
    rw [hu.keys] at hk
    obtain ⟨y, hy, e⟩ := List.mem_map.1 hk
    rw [← e]; exact h.new y hy
theorem Blks.range {w0 w : World} {L : List Blk} (h : Blks w0 w L) {b o n : Nat} {cs vs : List Value} {t : TypeId} (hm : (b, cs, t) ∈ L) (hr : Rd cs o n vs) : w.rangeAt b o vs := by
  intro j v hv
  have hb := h.has _ hm
  have := cell_of_row w b (o + j) cs.toArray t (0, 0) hb
  rw [this]
  simpa using hr.at_ j v hv
theorem Blks.there {w0 w : World} {L : List Blk} (h : Blks w0 w L) {b o n : Nat} {cs : List Value} {t : TypeId} (hm : (b, cs, t) ∈ L) (hn : o + n ≤ cs.length) : w.there b o n := by
  intro j hj
  have hb := h.has _ hm
  have hc := cell_of_row w b (o + j) cs.toArray t (0, 0) hb
  refine ⟨?_, by simp [World.frozen?, hb]⟩
  rw [hc]
  simp; omega

theorem Blks.cell {w0 w : World} {L : List Blk} (h : Blks w0 w L) {b o : Nat} {cs : List Value} {v : Value} {t : TypeId} (hm : (b, cs, t) ∈ L) (hr : Rd cs o 1 [v]) : w.cell? ⟨b, o, none⟩ = some v := h.range hm hr 0 v rfl

section ops
variable {P : Program} {ops : Array Oper} {rest : List Oper} {o : Oper} {a : Act} {w0 w : World} {Q : Exit → Act → World → Prop} {L L' : List Blk}

/-- A struct or an array of so many cells. -/
structure RowT (P : Program) (ty : TypeId) (n : Nat) : Prop where
  row : ∃ d, P.underlying ty = some d ∧ d.isRow = true
  size : (P.info? ty).map (·.size) = some n
/-- A type of one cell that is no struct and no array. -/
structure OneT (P : Program) (ty : TypeId) : Prop where
  row : ∃ d, P.underlying ty = some d ∧ d.isRow = false
  size : (P.info? ty).map (·.size) = some 1

theorem bk_load (hg : o.guard = none) {ty : TypeId} {x : Operand} (ho : o.op = .load ty x) {b off : Nat} (hx : a.eval x = .pointer (some ⟨b, off, none⟩)) (H : Blks w0 w L) {cs : List Value} {t : TypeId} (hm : (b, cs, t) ∈ L)
    {n : Nat} (ht : RowT P ty n) {vs : List Value} (hr : Rd cs off n vs) (h : wpList P ops Q rest (a.put o.dst (.agg vs.toArray)) w) : wpList P ops Q (o :: rest) a w := by
  obtain ⟨d, hu, hd⟩ := ht.row
  exact wpList_load_mid hg ty x ho b off hx vs d (H.range hm hr) hu hd (by rw [ht.size, hr.len]) h
theorem bk_load1 (hg : o.guard = none) {ty : TypeId} {x : Operand} (ho : o.op = .load ty x) {b off : Nat} (hx : a.eval x = .pointer (some ⟨b, off, none⟩)) (H : Blks w0 w L) {cs : List Value} {t : TypeId} (hm : (b, cs, t) ∈ L)
    (ht : OneT P ty) {v : Value} (hr : Rd cs off 1 [v]) (h : wpList P ops Q rest (a.put o.dst v) w) : wpList P ops Q (o :: rest) a w := by
  obtain ⟨d, hu, hd⟩ := ht.row
  have hc : w.cell? ⟨b, off, none⟩ = some v := (H.range hm hr) 0 v rfl
  refine wpList_plain hg fun K hK => ?_
  unfold Oper.wp execOp
  have hrun : (loadVar ty ⟨b, off, none⟩).run P w = .ok v w := by
    have hs := ht.size
    cases hq : P.info? ty with
    | none => simp [hq] at hs
    | some i =>
      have hs : i.size = 1 := by simpa [hq] using hs
      cases d <;> first
        | (simp [TypeDesc.isRow] at hd; done)
        | (simp [loadVar, isAgg, sizeOf, typeInfo, hq, hs, run_underlying hu, hc, loadCells, go_sem]; done)
  simp only [ho, hx, Instr.loadAt, Instr.sureAddr, Sem.run_bind, Sem.run_pure, Result.andThen_ok, hrun]
  exact hK _ _ h
theorem bk_store (hg : o.guard = none) {ty : TypeId} {x y : Operand} (ho : o.op = .store ty x y) (hd : o.dst = none) {b off : Nat} (hx : a.eval x = .pointer (some ⟨b, off, none⟩)) {vs : Array Value} (hy : a.eval y = .agg vs) (H : Blks w0 w L)
    {n : Nat} (ht : RowT P ty n) (hn : vs.size = n) (h1 : vs.all (·.oneCell') = true) {cs cs' : List Value} {t : TypeId} (_hm : (b, cs, t) ∈ L) (hw : Wr cs off vs.toList cs') (hu : Up L b cs t cs' L')
    (h : ∀ w', Blks w0 w' L' → wpList P ops Q rest a w') : wpList P ops Q (o :: rest) a w := by
  have hle := hw.len.2
  rw [Array.length_toList] at hle
  refine wpList_store_mid hg ty x y ho b off vs hx hy (H.there hu.mem hle) (by rw [ht.size, hn]) h1 ?_
  rw [hd]
  exact h _ (H.set hw hu)
theorem bk_store1 (hg : o.guard = none) {ty : TypeId} {x y : Operand} (ho : o.op = .store ty x y) (hd : o.dst = none) {b off : Nat} (hx : a.eval x = .pointer (some ⟨b, off, none⟩)) {v : Value} (hy : a.eval y = v) (H : Blks w0 w L)
    (ht : OneT P ty) (h1 : v.oneCell' = true) {cs cs' : List Value} {t : TypeId} (_hm : (b, cs, t) ∈ L) (hw : Wr cs off [v] cs') (hu : Up L b cs t cs' L')
    (h : ∀ w', Blks w0 w' L' → wpList P ops Q rest a w') : wpList P ops Q (o :: rest) a w := by
  have hle := hw.len.2
  have hth := H.there (n := 1) hu.mem hle
  obtain ⟨h0, h2⟩ := hth 0 (by omega)
  refine wpList_plain hg fun K hK => ?_
  unfold Oper.wp execOp
  obtain ⟨old, hold⟩ := Option.isSome_iff_exists.1 h0
  rw [Nat.add_zero] at hold h2
  have hrun : (storeVar ty ⟨b, off, none⟩ v).run P w = .ok () (w.setCells b off [v]) := by
    have hs := ht.size
    have hcv : v.cells = #[v] := by cases v <;> first | rfl | cases h1
    have hst := run_storeCells_cells (P := P) b off [v] 0 w (fun j hj => by
      have : j = 0 := by simpa using hj
      subst this
      simpa using h0) (fun j hj => by
      have : j = 0 := by simpa using hj
      subst this
      simpa using h2) (fun u hu => by simp at hu; subst hu; exact h1)
    cases hq : P.info? ty with
    | none => simp [hq] at hs
    | some i =>
      have hs : i.size = 1 := by simpa [hq] using hs
      simp only [Nat.add_zero] at hst
      simp [storeVar, sizeOf, typeInfo, hq, hcv, hs, hst]
  simp only [ho, hx, hy, Instr.storeAt, Instr.sureAddr, Sem.run_bind, Sem.run_pure, Result.andThen_ok, hrun]
  rw [Oper.upon_skip, hd]
  exact hK _ _ (h _ (H.set hw hu))
theorem bk_alloc (hg : o.guard = none) {ty : TypeId} (ho : o.op = .alloc ty) (H : Blks w0 w L) {zs : Array Value} (hz : (P.info? ty).bind (fun i => i.zero.map (·.cells)) = some zs)
    (h : ∀ (b : Nat) (w' : World), Blks w0 w' ((b, zs.toList, ty) :: L) → wpList P ops Q rest (a.put o.dst (.pointer (some ⟨b, 0, none⟩))) w') : wpList P ops Q (o :: rest) a w := by
  refine wpList_plain hg fun K hK => ?_
  unfold Oper.wp execOp
  cases hq : P.info? ty with
  | none => simp [hq] at hz
  | some i =>
    simp only [hq, Option.bind_some] at hz
    cases hv : i.zero with
    | none => simp [hv] at hz
    | some z =>
      simp only [hv, Option.map_some, Option.some.injEq] at hz
      have hrun : (Instr.alloc ty true (.tuple #[])).run P w = .ok (.pointer (some ⟨w.heap.size, 0, none⟩)) (w.alloc (.cells zs ty)) := by
        simp [Instr.alloc, zeroValue, typeInfo, hq, hv, newVar, newRow, hz]
      simp only [ho, Sem.run_bind, hrun, Result.andThen_ok, Sem.run_pure]
      exact hK _ _ (h _ _ (H.alloc zs ty))
theorem bk_box (hg : o.guard = none) {ty : TypeId} {x : Operand} (ho : o.op = .box ty x) (H : Blks w0 w L) {cs : Array Value} (hx : a.eval x = .agg cs)
    (h : ∀ (b : Nat) (w' : World), Blks w0 w' ((b, cs.toList, ty) :: L) → wpList P ops Q rest (a.put o.dst (.pointer (some ⟨b, 0, none⟩))) w') : wpList P ops Q (o :: rest) a w :=
  Great.wpList_boxTo hg ty x ho o.dst rfl w.heap.size rfl cs (by rw [hx]; rfl) (h _ _ (H.alloc cs ty))
theorem bk_slice (hg : o.guard = none) {t e : TypeId} {len : Nat} {parts : Array (Nat × Operand)} (ho : o.op = .buildSlice t len parts) (H : Blks w0 w L) (hu : P.underlying t = some (.slice e)) {cells : Array Value}
    (hf : P.builtSlice e len (parts.map fun (i, x) => (i, a.eval x)).toList = some cells)
    (h : ∀ (b : Nat) (w' : World), Blks w0 w' ((b, cells.toList, e) :: L) → wpList P ops Q rest (a.put o.dst (.slice (some ⟨b, 0, none⟩) len len)) w') : wpList P ops Q (o :: rest) a w :=
  Great.wpList_buildSliceTo hg t e len parts ho w.heap.size rfl o.dst rfl hu cells hf (h _ _ (H.alloc cells e))
theorem bk_build (hg : o.guard = none) {t : TypeId} {parts : Array (Nat × Operand)} (ho : o.op = .build t parts) {cells : Array Value} (hf : P.built t (parts.map fun (i, x) => (i, a.eval x)).toList = some cells)
    (h : wpList P ops Q rest (a.put o.dst (.agg cells)) w) : wpList P ops Q (o :: rest) a w := wpList_buildTo hg t parts ho o.dst rfl cells hf h
/-- A block of the call's own as a row of so many elements. -/
theorem Blks.row (h : Blks w0 w L) {b n size : Nat} {cs : List Value} {e : TypeId} (hm : (b, cs, e) ∈ L) (hl : cs.length = n * size) (hn : n ≤ maxLen) : w.ownsRow w0.heap.size e size (.slice (some ⟨b, 0, none⟩) n n) n cs :=
  ⟨hl, Or.inr ⟨b, n, cs.toArray, rfl, h.new _ hm, h.has _ hm, Nat.le_refl _, hn, by simpa using hl, by simp [List.take_of_length_le (Nat.le_of_eq hl)]⟩⟩
end ops
end Go.Proofs.YtgoeiflddikihaaGreatDoor.Mem
end
section
namespace Go.Proofs.YtgoeiflddikihaaGreatDoor.PFnIntersectAny
open Go.RowKit Go.Proofs.YtgoeiflddikihaaGreatDoorW.PrintWords Go.Proofs.YtgoeiflddikihaaGreatDoorW.PrintLast Go.Proofs.YtgoeiflddikihaaGreatDoorW.PrintMore
attribute [local go_sem] max2_int min2_int max_two min_two max_three min_three max_four min_four   -- for this text's walks alone
set_option linter.unusedVariables false
set_option linter.unusedSimpArgs false

/-! ### semver_trim: function 142 -/
mutual
def semver_trim.j1 : Nat → ByteArray → Option (ByteArray)
  | 0, _ => none
  | k + 1, x0 => semver_trim.l1 k x0
def semver_trim.l1 : Nat → ByteArray → Option (ByteArray)
  | 0, _ => none
  | k + 1, x0 => if x0.toList = ([] : List UInt8) then (some x0) else (if 0 ≤ (wrap64 ((x0.size : Int) - 1)) then (if (wrap64 ((x0.size : Int) - 1)) < (x0.size : Int) then (if (bt x0 (wrap64 ((x0.size : Int) - 1))) = 32 then (if (wrap64 ((x0.size : Int) - 1)) ≤ (x0.size : Int) then (semver_trim.l1 k (x0.extract 0 ((wrap64 ((x0.size : Int) - 1)) : Int).toNat)) else (none)) else (some x0)) else (none)) else (none))
def semver_trim.l0 : Nat → ByteArray → Option (ByteArray)
  | 0, _ => none
  | k + 1, x0 => if x0.toList = ([] : List UInt8) then (semver_trim.j1 k x0) else (if 0 < (x0.size : Int) then (if (bt x0 0) = 32 then (if 1 ≤ (x0.size : Int) then (semver_trim.l0 k (x0.extract 1 x0.size)) else (none)) else (semver_trim.j1 k x0)) else (none))
end
def semver_trim.f (k : Nat) (a0 : ByteArray) : Option (ByteArray) := semver_trim.l0 k a0
theorem semver_trim.mono_l : ∀ k, (∀ y0, LeO (semver_trim.j1 k y0) (semver_trim.j1 (k + 1) y0)) ∧ (∀ y0, LeO (semver_trim.l1 k y0) (semver_trim.l1 (k + 1) y0)) ∧ (∀ y0, LeO (semver_trim.l0 k y0) (semver_trim.l0 (k + 1) y0))
  | 0 => ⟨fun _ r h => by simp [semver_trim.j1] at h, fun _ r h => by simp [semver_trim.l1] at h, fun _ r h => by simp [semver_trim.l0] at h⟩
  | k + 1 => by
    obtain ⟨ih0, ih1, ih2⟩ := semver_trim.mono_l k
    refine ⟨?_, ?_, ?_⟩
    · intro y0
      unfold semver_trim.j1
      repeat' first
      | (with_reducible exact ih0 _)
      | (with_reducible exact ih1 _)
      | (with_reducible exact ih2 _)
      | (with_reducible exact LeO.refl _)
      | (with_reducible exact LeO.none _)
      | (with_reducible refine LeO.ite ?_ ?_)
      | (with_reducible refine LeO.bind ?_ (fun _ => ?_))
      | exact ih0 _
      | exact ih1 _
      | exact ih2 _
      | exact LeO.none _
      | refine LeO.ite ?_ ?_
      | refine LeO.bind ?_ (fun _ => ?_)
    · intro y0
      unfold semver_trim.l1
      repeat' first
      | (with_reducible exact ih0 _)
      | (with_reducible exact ih1 _)
      | (with_reducible exact ih2 _)
      | (with_reducible exact LeO.refl _)
      | (with_reducible exact LeO.none _)
      | (with_reducible refine LeO.ite ?_ ?_)
      | (with_reducible refine LeO.bind ?_ (fun _ => ?_))
      | exact ih0 _
      | exact ih1 _
      | exact ih2 _
      | exact LeO.none _
      | refine LeO.ite ?_ ?_
      | refine LeO.bind ?_ (fun _ => ?_)
    · intro y0
      unfold semver_trim.l0
      repeat' first
      | (with_reducible exact ih0 _)
      | (with_reducible exact ih1 _)
      | (with_reducible exact ih2 _)
      | (with_reducible exact LeO.refl _)
      | (with_reducible exact LeO.none _)
      | (with_reducible refine LeO.ite ?_ ?_)
      | (with_reducible refine LeO.bind ?_ (fun _ => ?_))
      | exact ih0 _
      | exact ih1 _
      | exact ih2 _
      | exact LeO.none _
      | refine LeO.ite ?_ ?_
      | refine LeO.bind ?_ (fun _ => ?_)
theorem semver_trim.mono : ∀ a0 k, LeO (semver_trim.f k a0) (semver_trim.f (k + 1) a0) := by
  intro a0 k
  obtain ⟨ih0, ih1, ih2⟩ := semver_trim.mono_l k
  unfold semver_trim.f
  repeat' first
      | (with_reducible exact ih0 _)
      | (with_reducible exact ih1 _)
      | (with_reducible exact ih2 _)
      | (with_reducible exact LeO.refl _)
      | (with_reducible exact LeO.none _)
      | (with_reducible refine LeO.ite ?_ ?_)
      | (with_reducible refine LeO.bind ?_ (fun _ => ?_))
      | exact ih0 _
      | exact ih1 _
      | exact ih2 _
      | exact LeO.none _
      | refine LeO.ite ?_ ?_
      | refine LeO.bind ?_ (fun _ => ?_)
set_option maxHeartbeats 8000000 in
set_option maxRecDepth 100000 in
theorem semver_trim.calls (k : Nat) (a0 : ByteArray) (r : ByteArray) (w : World) (h : semver_trim.f k a0 = some r) :
    Calls Tryz.prog 142 #[.string a0] w fun e w' => e = .returned (.string r) ∧ Drawn0 w w' := by
  have H : (semver_trim.l0 k a0) = some r := h
  clear h
  have HC2 := Aside0.mk H
  clear H
  go_enter Tryz.func142, Tryz.ntmps142
  go_upto_block 0 with (fail)
  go_cut [0] (fun v0 wc => ∃ (kq : Nat) (x0_1 : ByteArray), v0 = .string x0_1 ∧ Aside0 (semver_trim.j1 kq x0_1 = some r) ∧ Aside0 (kq ≤ k) ∧ Drawn0 w wc)
  case first =>
    have H := HC2.out
    clear HC2
    have H' := Aside0.mk H
    clear H
    go_wp2
    go_loopg [0] k (fun kq v0 w' => ∃ (x0_1 : ByteArray), v0 = .string x0_1 ∧ Aside0 (semver_trim.l0 kq x0_1 = some r) ∧ Aside0 (kq ≤ k) ∧ Drawn0 w w')
    case atStart => exact ⟨(a0), (by first | rfl | (simp; done) | (simp [*]; done)), H', ⟨Nat.le_refl _⟩, by repeat (first | exact Drawn0.refl _ | apply Drawn0.step)⟩
    case round =>
      clear H'
      try clear c1
      try clear p2
      obtain ⟨x0_1, rfl, HA, HK1, ⟨m1, rfl⟩⟩ := hrel
      cases gk with
      | zero => exact absurd HA.out (by simp [semver_trim.l0])
      | succ k1 =>
        have H := HA.out
        clear HA
        simp only [semver_trim.l0] at H
        by_cases c3 : x0_1.toList = ([] : List UInt8)
        · rw [if_pos c3] at H
          have c3b0 : (x0_1.toList == ([] : List UInt8)) = true := beq_iff_eq.mpr c3
          have c3b1 : (x0_1.toList != ([] : List UInt8)) = false := bne_eq_false_iff_eq.mpr c3
          clear c3
          (first | rw [c3b0] | (simp only [i64_w, i32_w]; rw [c3b0]) | skip)
          have H' := Aside0.mk H
          clear H
          go_wp2
          go_meet
          case rel => exact ⟨_, (x0_1), (by first | rfl | (simp; done) | (simp [*]; done)), H', ⟨by have := HK1.out; first | omega | exact Nat.le_refl _⟩, by repeat (first | exact Drawn0.refl _ | apply Drawn0.step)⟩
        · rw [if_neg c3] at H
          have c3b0 : (x0_1.toList == ([] : List UInt8)) = false := beq_eq_false_iff_ne.mpr c3
          have c3b1 : (x0_1.toList != ([] : List UInt8)) = true := bne_iff_ne.mpr c3
          (first | rw [c3b0] | (simp only [i64_w, i32_w]; rw [c3b0]) | skip)
          by_cases c4 : 0 < (x0_1.size : Int)
          · rw [if_pos c4] at H
            have c4b0 : decide (0 < (x0_1.size : Int)) = true := decide_eq_true c4
            have c4b1 : decide (0 < x0_1.size) = true := decide_eq_true (by omega)
            clear c4
            by_cases c6 : (bt x0_1 0) = 32
            · rw [if_pos c6] at H
              have c6b0 : ((bt x0_1 0) == 32) = true := beq_iff_eq.mpr c6
              have c6b1 : ((bt x0_1 0) != 32) = false := bne_eq_false_iff_eq.mpr c6
              clear c6
              by_cases c7 : 1 ≤ (x0_1.size : Int)
              · rw [if_pos c7] at H
                have c7b0 := eq_true c7
                have c7b1 : decide (1 ≤ (x0_1.size : Int)) = true := decide_eq_true c7
                clear c7
                have H' := Aside0.mk H
                clear H
                have p5 : 0 ≤ (0 : Int) := (by omega)
                have q5 : 0 < x0_1.size := (by have : (0 : Int) < (x0_1.size : Int) := of_decide_eq_true (by first | (with_reducible assumption) | assumption); omega)
                have hx5 : ∀ h : 0 < x0_1.size, ((x0_1[0]'h).toNat : Int) = bt x0_1 0 := bt_at x0_1 0
                clear p5
                have qi5 : (0 < (x0_1.size : Int)) = True := eq_true (of_decide_eq_true (by first | (with_reducible assumption) | assumption))
                replace q5 := eq_true q5
                go_wp2
                go_roundg k1
                case measure => have := HK1.out; omega
                case rel => exact ⟨(x0_1.extract 1 x0_1.size), (by first | rfl | (simp; done) | (simp [*]; done)), H', ⟨by have := HK1.out; omega⟩, by repeat (first | exact Drawn0.refl _ | apply Drawn0.step)⟩
              · rw [if_neg c7] at H
                exact absurd H (by simp)
            · rw [if_neg c6] at H
              have c6b0 : ((bt x0_1 0) == 32) = false := beq_eq_false_iff_ne.mpr c6
              have c6b1 : ((bt x0_1 0) != 32) = true := bne_iff_ne.mpr c6
              have H' := Aside0.mk H
              clear H
              have p5 : 0 ≤ (0 : Int) := (by omega)
              have q5 : 0 < x0_1.size := (by have : (0 : Int) < (x0_1.size : Int) := of_decide_eq_true (by first | (with_reducible assumption) | assumption); omega)
              have hx5 : ∀ h : 0 < x0_1.size, ((x0_1[0]'h).toNat : Int) = bt x0_1 0 := bt_at x0_1 0
              clear p5
              have qi5 : (0 < (x0_1.size : Int)) = True := eq_true (of_decide_eq_true (by first | (with_reducible assumption) | assumption))
              replace q5 := eq_true q5
              go_wp2
              go_meet
              case rel => exact ⟨_, (x0_1), (by first | rfl | (simp; done) | (simp [*]; done)), H', ⟨by have := HK1.out; first | omega | exact Nat.le_refl _⟩, by repeat (first | exact Drawn0.refl _ | apply Drawn0.step)⟩
          · rw [if_neg c4] at H
            exact absurd H (by simp)
  case rest =>
    clear HC2
    try clear c1
    try clear p2
    try clear c3
    try clear c3b0
    try clear c3b1
    try clear c4
    try clear c4b0
    try clear c4b1
    try clear p5
    try clear q5
    try clear hx5
    try clear qi5
    try clear c6
    try clear c6b0
    try clear c6b1
    try clear c7
    try clear c7b0
    try clear c7b1
    try clear p2
    try clear p5
    try clear q5
    obtain ⟨kq, x0_1, rfl, HA, HJ1, ⟨mc1, rfl⟩⟩ := hcut
    cases kq with
    | zero => exact absurd HA.out (by simp [semver_trim.j1])
    | succ kj1 =>
      have H := HA.out
      clear HA
      simp only [semver_trim.j1] at H
      have H' := Aside0.mk H
      clear H
      go_wp2
      go_loopg [0] kj1 (fun kq v0 w' => ∃ (x0_2 : ByteArray), v0 = .string x0_2 ∧ Aside0 (semver_trim.l1 kq x0_2 = some r) ∧ Aside0 (kq ≤ kj1) ∧ Drawn0 w w')
      case atStart => exact ⟨(x0_1), (by first | rfl | (simp; done) | (simp [*]; done)), H', ⟨Nat.le_refl _⟩, by repeat (first | exact Drawn0.refl _ | apply Drawn0.step)⟩
      case round =>
        clear H'
        try clear c1
        try clear p2
        try clear c3
        try clear c3b0
        try clear c3b1
        try clear c4
        try clear c4b0
        try clear c4b1
        try clear p5
        try clear q5
        try clear hx5
        try clear qi5
        try clear c6
        try clear c6b0
        try clear c6b1
        try clear c7
        try clear c7b0
        try clear c7b1
        try clear p2
        try clear p5
        try clear q5
        obtain ⟨x0_2, rfl, HA, HK2, ⟨m2, rfl⟩⟩ := hrel
        cases gk with
        | zero => exact absurd HA.out (by simp [semver_trim.l1])
        | succ k2 =>
          have H := HA.out
          clear HA
          simp only [semver_trim.l1] at H
          by_cases c8 : x0_2.toList = ([] : List UInt8)
          · rw [if_pos c8] at H
            have c8b0 : (x0_2.toList == ([] : List UInt8)) = true := beq_iff_eq.mpr c8
            have c8b1 : (x0_2.toList != ([] : List UInt8)) = false := bne_eq_false_iff_eq.mpr c8
            clear c8
            obtain rfl := Option.some.inj H
            go_wp2
            go_ret
            exact ⟨by first | rfl | (simp; done) | (simp [*]; done), by repeat (first | exact Drawn0.refl _ | apply Drawn0.step)⟩
          · rw [if_neg c8] at H
            have c8b0 : (x0_2.toList == ([] : List UInt8)) = false := beq_eq_false_iff_ne.mpr c8
            have c8b1 : (x0_2.toList != ([] : List UInt8)) = true := bne_iff_ne.mpr c8
            obtain ⟨ji9, hji9⟩ : ∃ j_ : Int, (wrap64 ((x0_2.size : Int) - 1)) = j_ := ⟨_, rfl⟩
            replace H : (if 0 ≤ (ji9) then (if (ji9) < (x0_2.size : Int) then (if (bt x0_2 (ji9)) = 32 then (if (ji9) ≤ (x0_2.size : Int) then (semver_trim.l1 k2 (x0_2.extract 0 ((ji9) : Int).toNat)) else (none)) else (some x0_2)) else (none)) else (none)) = some r := by first | (rw [hji9] at H; exact H) | (simp only [hji9] at H ⊢; exact H)
            have hji9w : (IntKind.i64.wrap ((x0_2.size : Int) - 1)) = ji9 := (i64_w _).trans hji9
            by_cases c10 : 0 ≤ (ji9)
            · rw [if_pos c10] at H
              have c10b0 : decide (0 ≤ (ji9)) = true := decide_eq_true c10
              clear c10
              by_cases c11 : (ji9) < (x0_2.size : Int)
              · rw [if_pos c11] at H
                have c11b0 : decide ((ji9) < (x0_2.size : Int)) = true := decide_eq_true c11
                clear c11
                by_cases c13 : (bt x0_2 (ji9)) = 32
                · rw [if_pos c13] at H
                  have c13b0 : ((bt x0_2 (ji9)) == 32) = true := beq_iff_eq.mpr c13
                  have c13b1 : ((bt x0_2 (ji9)) != 32) = false := bne_eq_false_iff_eq.mpr c13
                  clear c13
                  have c14b0 := eq_true (of_decide_eq_true (by first | (with_reducible assumption) | assumption) : 0 ≤ (ji9))
                  by_cases c15 : (ji9) ≤ (x0_2.size : Int)
                  · rw [if_pos c15] at H
                    have c15b0 := eq_true c15
                    have c15b1 : decide ((ji9) ≤ (x0_2.size : Int)) = true := decide_eq_true c15
                    clear c15
                    have H' := Aside0.mk H
                    clear H
                    have p12 : 0 ≤ ((ji9) : Int) := of_decide_eq_true (by first | (with_reducible assumption) | assumption)
                    have q12 : (ji9) < (x0_2.size : Int) := of_decide_eq_true (by first | (with_reducible assumption) | assumption)
                    have hx12 := bt_at x0_2 (ji9)
                    replace p12 := eq_true p12
                    replace q12 := eq_true q12
                    go_wp2
                    go_roundg k2
                    case measure => have := HJ1.out; have := HK2.out; omega
                    case rel => exact ⟨(x0_2.extract 0 ((ji9) : Int).toNat), (by first | rfl | (simp; done) | (simp only [← hji9] <;> (first | rfl | simp)) | (simp [*]; done)), H', ⟨by have := HJ1.out; have := HK2.out; omega⟩, by repeat (first | exact Drawn0.refl _ | apply Drawn0.step)⟩
                  · rw [if_neg c15] at H
                    exact absurd H (by simp)
                · rw [if_neg c13] at H
                  have c13b0 : ((bt x0_2 (ji9)) == 32) = false := beq_eq_false_iff_ne.mpr c13
                  have c13b1 : ((bt x0_2 (ji9)) != 32) = true := bne_iff_ne.mpr c13
                  obtain rfl := Option.some.inj H
                  have p12 : 0 ≤ ((ji9) : Int) := of_decide_eq_true (by first | (with_reducible assumption) | assumption)
                  have q12 : (ji9) < (x0_2.size : Int) := of_decide_eq_true (by first | (with_reducible assumption) | assumption)
                  have hx12 := bt_at x0_2 (ji9)
                  replace p12 := eq_true p12
                  replace q12 := eq_true q12
                  go_wp2
                  go_ret
                  exact ⟨by first | rfl | (simp; done) | (simp only [← hji9] <;> (first | rfl | simp)) | (simp [*]; done), by repeat (first | exact Drawn0.refl _ | apply Drawn0.step)⟩
              · rw [if_neg c11] at H
                exact absurd H (by simp)
            · rw [if_neg c10] at H
              exact absurd H (by simp)

/-! ### semver_plainNumbers: function 155 -/
def semver_plainNumbers.l0 : Nat → ByteArray → Int → Option (Bool)
  | 0, _, _ => none
  | k + 1, x0, x3 => if x3 < (x0.size : Int) then (if 0 ≤ x3 then (if (bt x0 x3) < 48 then (if (bt x0 x3) = 46 then (semver_plainNumbers.l0 k x0 (wrap64 (x3 + 1))) else (if (bt x0 x3) = 120 then (semver_plainNumbers.l0 k x0 (wrap64 (x3 + 1))) else (if (bt x0 x3) = 88 then (semver_plainNumbers.l0 k x0 (wrap64 (x3 + 1))) else (if (bt x0 x3) = 42 then (semver_plainNumbers.l0 k x0 (wrap64 (x3 + 1))) else (if (bt x0 x3) = 118 then (semver_plainNumbers.l0 k x0 (wrap64 (x3 + 1))) else (some false)))))) else (if (bt x0 x3) > 57 then (if (bt x0 x3) = 46 then (semver_plainNumbers.l0 k x0 (wrap64 (x3 + 1))) else (if (bt x0 x3) = 120 then (semver_plainNumbers.l0 k x0 (wrap64 (x3 + 1))) else (if (bt x0 x3) = 88 then (semver_plainNumbers.l0 k x0 (wrap64 (x3 + 1))) else (if (bt x0 x3) = 42 then (semver_plainNumbers.l0 k x0 (wrap64 (x3 + 1))) else (if (bt x0 x3) = 118 then (semver_plainNumbers.l0 k x0 (wrap64 (x3 + 1))) else (some false)))))) else (semver_plainNumbers.l0 k x0 (wrap64 (x3 + 1))))) else (none)) else (some true)
def semver_plainNumbers.f (k : Nat) (a0 : ByteArray) : Option (Bool) := semver_plainNumbers.l0 k a0 0
theorem semver_plainNumbers.mono_l : ∀ k, (∀ y0 y1, LeO (semver_plainNumbers.l0 k y0 y1) (semver_plainNumbers.l0 (k + 1) y0 y1))
  | 0 => fun _ _ r h => by simp [semver_plainNumbers.l0] at h
  | k + 1 => by
    have ih0 := semver_plainNumbers.mono_l k
    · intro y0 y1
      unfold semver_plainNumbers.l0
      repeat' first
      | (with_reducible exact ih0 _ _)
      | (with_reducible exact LeO.refl _)
      | (with_reducible exact LeO.none _)
      | (with_reducible refine LeO.ite ?_ ?_)
      | (with_reducible refine LeO.bind ?_ (fun _ => ?_))
      | exact ih0 _ _
      | exact LeO.none _
      | refine LeO.ite ?_ ?_
      | refine LeO.bind ?_ (fun _ => ?_)
theorem semver_plainNumbers.mono : ∀ a0 k, LeO (semver_plainNumbers.f k a0) (semver_plainNumbers.f (k + 1) a0) := by
  intro a0 k
  have ih0 := semver_plainNumbers.mono_l k
  unfold semver_plainNumbers.f
  repeat' first
      | (with_reducible exact ih0 _ _)
      | (with_reducible exact LeO.refl _)
      | (with_reducible exact LeO.none _)
      | (with_reducible refine LeO.ite ?_ ?_)
      | (with_reducible refine LeO.bind ?_ (fun _ => ?_))
      | exact ih0 _ _
      | exact LeO.none _
      | refine LeO.ite ?_ ?_
      | refine LeO.bind ?_ (fun _ => ?_)
set_option maxHeartbeats 8000000 in
set_option maxRecDepth 100000 in
theorem semver_plainNumbers.calls (k : Nat) (a0 : ByteArray) (r : Bool) (w : World) (h : semver_plainNumbers.f k a0 = some r) :
    Calls Tryz.prog 155 #[.string a0] w fun e w' => e = .returned (.bool r) ∧ Drawn0 w w' := by
  have H : (semver_plainNumbers.l0 k a0 0) = some r := h
  clear h
  have H' := Aside0.mk H
  clear H
  go_enter Tryz.func155, Tryz.ntmps155
  go_wp2
  go_loopg [3] k (fun kq v3 w' => ∃ (x3_1 : Int), v3 = .int .i64 x3_1 ∧ Aside0 (semver_plainNumbers.l0 kq a0 x3_1 = some r) ∧ Aside0 (kq ≤ k) ∧ Drawn0 w w')
  case atStart => exact ⟨(0), (by first | rfl | (simp; done) | (simp [*]; done)), H', ⟨Nat.le_refl _⟩, by repeat (first | exact Drawn0.refl _ | apply Drawn0.step)⟩
  case round =>
    clear H'
    try clear c1
    obtain ⟨x3_1, rfl, HA, HK1, ⟨m1, rfl⟩⟩ := hrel
    cases gk with
    | zero => exact absurd HA.out (by simp [semver_plainNumbers.l0])
    | succ k1 =>
      have H := HA.out
      clear HA
      simp only [semver_plainNumbers.l0] at H
      by_cases c2 : x3_1 < (a0.size : Int)
      · rw [if_pos c2] at H
        have c2b0 : decide (x3_1 < (a0.size : Int)) = true := decide_eq_true c2
        clear c2
        by_cases c3 : 0 ≤ x3_1
        · rw [if_pos c3] at H
          have c3b0 : decide (0 ≤ x3_1) = true := decide_eq_true c3
          clear c3
          by_cases c5 : (bt a0 x3_1) < 48
          · rw [if_pos c5] at H
            have c5b0 : decide ((bt a0 x3_1) < 48) = true := decide_eq_true c5
            clear c5
            by_cases c7 : (bt a0 x3_1) = 46
            · rw [if_pos c7] at H
              have c7b0 : ((bt a0 x3_1) == 46) = true := beq_iff_eq.mpr c7
              have c7b1 : ((bt a0 x3_1) != 46) = false := bne_eq_false_iff_eq.mpr c7
              clear c7
              have H' := Aside0.mk H
              clear H
              have p4 : 0 ≤ (x3_1 : Int) := of_decide_eq_true (by first | (with_reducible assumption) | assumption)
              have q4 : x3_1 < (a0.size : Int) := of_decide_eq_true (by first | (with_reducible assumption) | assumption)
              have hx4 := bt_at a0 x3_1
              replace p4 := eq_true p4
              replace q4 := eq_true q4
              have p6 : 0 ≤ (x3_1 : Int) := of_decide_eq_true (by first | (with_reducible assumption) | assumption)
              have q6 : x3_1 < (a0.size : Int) := of_decide_eq_true (by first | (with_reducible assumption) | assumption)
              have hx6 := bt_at a0 x3_1
              replace p6 := eq_true p6
              replace q6 := eq_true q6
              go_wp2
              go_roundg k1
              case measure => have := HK1.out; omega
              case rel => exact ⟨(wrap64 (x3_1 + 1)), (by first | rfl | (simp; done) | (simp [*]; done)), H', ⟨by have := HK1.out; omega⟩, by repeat (first | exact Drawn0.refl _ | apply Drawn0.step)⟩
            · rw [if_neg c7] at H
              have c7b0 : ((bt a0 x3_1) == 46) = false := beq_eq_false_iff_ne.mpr c7
              have c7b1 : ((bt a0 x3_1) != 46) = true := bne_iff_ne.mpr c7
              by_cases c9 : (bt a0 x3_1) = 120
              · rw [if_pos c9] at H
                have c9b0 : ((bt a0 x3_1) == 120) = true := beq_iff_eq.mpr c9
                have c9b1 : ((bt a0 x3_1) != 120) = false := bne_eq_false_iff_eq.mpr c9
                clear c9
                have H' := Aside0.mk H
                clear H
                have p4 : 0 ≤ (x3_1 : Int) := of_decide_eq_true (by first | (with_reducible assumption) | assumption)
                have q4 : x3_1 < (a0.size : Int) := of_decide_eq_true (by first | (with_reducible assumption) | assumption)
                have hx4 := bt_at a0 x3_1
                replace p4 := eq_true p4
                replace q4 := eq_true q4
                have p6 : 0 ≤ (x3_1 : Int) := of_decide_eq_true (by first | (with_reducible assumption) | assumption)
                have q6 : x3_1 < (a0.size : Int) := of_decide_eq_true (by first | (with_reducible assumption) | assumption)
                have hx6 := bt_at a0 x3_1
                replace p6 := eq_true p6
                replace q6 := eq_true q6
                have p8 : 0 ≤ (x3_1 : Int) := of_decide_eq_true (by first | (with_reducible assumption) | assumption)
                have q8 : x3_1 < (a0.size : Int) := of_decide_eq_true (by first | (with_reducible assumption) | assumption)
                have hx8 := bt_at a0 x3_1
                replace p8 := eq_true p8
                replace q8 := eq_true q8
                go_wp2
                go_roundg k1
                case measure => have := HK1.out; omega
                case rel => exact ⟨(wrap64 (x3_1 + 1)), (by first | rfl | (simp; done) | (simp [*]; done)), H', ⟨by have := HK1.out; omega⟩, by repeat (first | exact Drawn0.refl _ | apply Drawn0.step)⟩
              · rw [if_neg c9] at H
                have c9b0 : ((bt a0 x3_1) == 120) = false := beq_eq_false_iff_ne.mpr c9
                have c9b1 : ((bt a0 x3_1) != 120) = true := bne_iff_ne.mpr c9
                by_cases c11 : (bt a0 x3_1) = 88
                · rw [if_pos c11] at H
                  have c11b0 : ((bt a0 x3_1) == 88) = true := beq_iff_eq.mpr c11
                  have c11b1 : ((bt a0 x3_1) != 88) = false := bne_eq_false_iff_eq.mpr c11
                  clear c11
                  have H' := Aside0.mk H
                  clear H
                  have p4 : 0 ≤ (x3_1 : Int) := of_decide_eq_true (by first | (with_reducible assumption) | assumption)
                  have q4 : x3_1 < (a0.size : Int) := of_decide_eq_true (by first | (with_reducible assumption) | assumption)
                  have hx4 := bt_at a0 x3_1
                  replace p4 := eq_true p4
                  replace q4 := eq_true q4
                  have p6 : 0 ≤ (x3_1 : Int) := of_decide_eq_true (by first | (with_reducible assumption) | assumption)
                  have q6 : x3_1 < (a0.size : Int) := of_decide_eq_true (by first | (with_reducible assumption) | assumption)
                  have hx6 := bt_at a0 x3_1
                  replace p6 := eq_true p6
                  replace q6 := eq_true q6
                  have p8 : 0 ≤ (x3_1 : Int) := of_decide_eq_true (by first | (with_reducible assumption) | assumption)
                  have q8 : x3_1 < (a0.size : Int) := of_decide_eq_true (by first | (with_reducible assumption) | assumption)
                  have hx8 := bt_at a0 x3_1
                  replace p8 := eq_true p8
                  replace q8 := eq_true q8
                  have p10 : 0 ≤ (x3_1 : Int) := of_decide_eq_true (by first | (with_reducible assumption) | assumption)
                  have q10 : x3_1 < (a0.size : Int) := of_decide_eq_true (by first | (with_reducible assumption) | assumption)
                  have hx10 := bt_at a0 x3_1
                  replace p10 := eq_true p10
                  replace q10 := eq_true q10
                  go_wp2
                  go_roundg k1
                  case measure => have := HK1.out; omega
                  case rel => exact ⟨(wrap64 (x3_1 + 1)), (by first | rfl | (simp; done) | (simp [*]; done)), H', ⟨by have := HK1.out; omega⟩, by repeat (first | exact Drawn0.refl _ | apply Drawn0.step)⟩
                · rw [if_neg c11] at H
                  have c11b0 : ((bt a0 x3_1) == 88) = false := beq_eq_false_iff_ne.mpr c11
                  have c11b1 : ((bt a0 x3_1) != 88) = true := bne_iff_ne.mpr c11
                  by_cases c13 : (bt a0 x3_1) = 42
                  · rw [if_pos c13] at H
                    have c13b0 : ((bt a0 x3_1) == 42) = true := beq_iff_eq.mpr c13
                    have c13b1 : ((bt a0 x3_1) != 42) = false := bne_eq_false_iff_eq.mpr c13
                    clear c13
                    have H' := Aside0.mk H
                    clear H
                    have p4 : 0 ≤ (x3_1 : Int) := of_decide_eq_true (by first | (with_reducible assumption) | assumption)
                    have q4 : x3_1 < (a0.size : Int) := of_decide_eq_true (by first | (with_reducible assumption) | assumption)
                    have hx4 := bt_at a0 x3_1
                    replace p4 := eq_true p4
                    replace q4 := eq_true q4
                    have p6 : 0 ≤ (x3_1 : Int) := of_decide_eq_true (by first | (with_reducible assumption) | assumption)
                    have q6 : x3_1 < (a0.size : Int) := of_decide_eq_true (by first | (with_reducible assumption) | assumption)
                    have hx6 := bt_at a0 x3_1
                    replace p6 := eq_true p6
                    replace q6 := eq_true q6
                    have p8 : 0 ≤ (x3_1 : Int) := of_decide_eq_true (by first | (with_reducible assumption) | assumption)
                    have q8 : x3_1 < (a0.size : Int) := of_decide_eq_true (by first | (with_reducible assumption) | assumption)
                    have hx8 := bt_at a0 x3_1
                    replace p8 := eq_true p8
                    replace q8 := eq_true q8
                    have p10 : 0 ≤ (x3_1 : Int) := of_decide_eq_true (by first | (with_reducible assumption) | assumption)
                    have q10 : x3_1 < (a0.size : Int) := of_decide_eq_true (by first | (with_reducible assumption) | assumption)
                    have hx10 := bt_at a0 x3_1
                    replace p10 := eq_true p10
                    replace q10 := eq_true q10
                    have p12 : 0 ≤ (x3_1 : Int) := of_decide_eq_true (by first | (with_reducible assumption) | assumption)
                    have q12 : x3_1 < (a0.size : Int) := of_decide_eq_true (by first | (with_reducible assumption) | assumption)
                    have hx12 := bt_at a0 x3_1
                    replace p12 := eq_true p12
                    replace q12 := eq_true q12
                    go_wp2
                    go_roundg k1
                    case measure => have := HK1.out; omega
                    case rel => exact ⟨(wrap64 (x3_1 + 1)), (by first | rfl | (simp; done) | (simp [*]; done)), H', ⟨by have := HK1.out; omega⟩, by repeat (first | exact Drawn0.refl _ | apply Drawn0.step)⟩
                  · rw [if_neg c13] at H
                    have c13b0 : ((bt a0 x3_1) == 42) = false := beq_eq_false_iff_ne.mpr c13
                    have c13b1 : ((bt a0 x3_1) != 42) = true := bne_iff_ne.mpr c13
                    by_cases c15 : (bt a0 x3_1) = 118
                    · rw [if_pos c15] at H
                      have c15b0 : ((bt a0 x3_1) == 118) = true := beq_iff_eq.mpr c15
                      have c15b1 : ((bt a0 x3_1) != 118) = false := bne_eq_false_iff_eq.mpr c15
                      clear c15
                      have H' := Aside0.mk H
                      clear H
                      have p4 : 0 ≤ (x3_1 : Int) := of_decide_eq_true (by first | (with_reducible assumption) | assumption)
                      have q4 : x3_1 < (a0.size : Int) := of_decide_eq_true (by first | (with_reducible assumption) | assumption)
                      have hx4 := bt_at a0 x3_1
                      replace p4 := eq_true p4
                      replace q4 := eq_true q4
                      have p6 : 0 ≤ (x3_1 : Int) := of_decide_eq_true (by first | (with_reducible assumption) | assumption)
                      have q6 : x3_1 < (a0.size : Int) := of_decide_eq_true (by first | (with_reducible assumption) | assumption)
                      have hx6 := bt_at a0 x3_1
                      replace p6 := eq_true p6
                      replace q6 := eq_true q6
                      have p8 : 0 ≤ (x3_1 : Int) := of_decide_eq_true (by first | (with_reducible assumption) | assumption)
                      have q8 : x3_1 < (a0.size : Int) := of_decide_eq_true (by first | (with_reducible assumption) | assumption)
                      have hx8 := bt_at a0 x3_1
                      replace p8 := eq_true p8
                      replace q8 := eq_true q8
                      have p10 : 0 ≤ (x3_1 : Int) := of_decide_eq_true (by first | (with_reducible assumption) | assumption)
                      have q10 : x3_1 < (a0.size : Int) := of_decide_eq_true (by first | (with_reducible assumption) | assumption)
                      have hx10 := bt_at a0 x3_1
                      replace p10 := eq_true p10
                      replace q10 := eq_true q10
                      have p12 : 0 ≤ (x3_1 : Int) := of_decide_eq_true (by first | (with_reducible assumption) | assumption)
                      have q12 : x3_1 < (a0.size : Int) := of_decide_eq_true (by first | (with_reducible assumption) | assumption)
                      have hx12 := bt_at a0 x3_1
                      replace p12 := eq_true p12
                      replace q12 := eq_true q12
                      have p14 : 0 ≤ (x3_1 : Int) := of_decide_eq_true (by first | (with_reducible assumption) | assumption)
                      have q14 : x3_1 < (a0.size : Int) := of_decide_eq_true (by first | (with_reducible assumption) | assumption)
                      have hx14 := bt_at a0 x3_1
                      replace p14 := eq_true p14
                      replace q14 := eq_true q14
                      go_wp2
                      go_roundg k1
                      case measure => have := HK1.out; omega
                      case rel => exact ⟨(wrap64 (x3_1 + 1)), (by first | rfl | (simp; done) | (simp [*]; done)), H', ⟨by have := HK1.out; omega⟩, by repeat (first | exact Drawn0.refl _ | apply Drawn0.step)⟩
                    · rw [if_neg c15] at H
                      have c15b0 : ((bt a0 x3_1) == 118) = false := beq_eq_false_iff_ne.mpr c15
                      have c15b1 : ((bt a0 x3_1) != 118) = true := bne_iff_ne.mpr c15
                      obtain rfl := Option.some.inj H
                      have p4 : 0 ≤ (x3_1 : Int) := of_decide_eq_true (by first | (with_reducible assumption) | assumption)
                      have q4 : x3_1 < (a0.size : Int) := of_decide_eq_true (by first | (with_reducible assumption) | assumption)
                      have hx4 := bt_at a0 x3_1
                      replace p4 := eq_true p4
                      replace q4 := eq_true q4
                      have p6 : 0 ≤ (x3_1 : Int) := of_decide_eq_true (by first | (with_reducible assumption) | assumption)
                      have q6 : x3_1 < (a0.size : Int) := of_decide_eq_true (by first | (with_reducible assumption) | assumption)
                      have hx6 := bt_at a0 x3_1
                      replace p6 := eq_true p6
                      replace q6 := eq_true q6
                      have p8 : 0 ≤ (x3_1 : Int) := of_decide_eq_true (by first | (with_reducible assumption) | assumption)
                      have q8 : x3_1 < (a0.size : Int) := of_decide_eq_true (by first | (with_reducible assumption) | assumption)
                      have hx8 := bt_at a0 x3_1
                      replace p8 := eq_true p8
                      replace q8 := eq_true q8
                      have p10 : 0 ≤ (x3_1 : Int) := of_decide_eq_true (by first | (with_reducible assumption) | assumption)
                      have q10 : x3_1 < (a0.size : Int) := of_decide_eq_true (by first | (with_reducible assumption) | assumption)
                      have hx10 := bt_at a0 x3_1
                      replace p10 := eq_true p10
                      replace q10 := eq_true q10
                      have p12 : 0 ≤ (x3_1 : Int) := of_decide_eq_true (by first | (with_reducible assumption) | assumption)
                      have q12 : x3_1 < (a0.size : Int) := of_decide_eq_true (by first | (with_reducible assumption) | assumption)
                      have hx12 := bt_at a0 x3_1
                      replace p12 := eq_true p12
                      replace q12 := eq_true q12
                      have p14 : 0 ≤ (x3_1 : Int) := of_decide_eq_true (by first | (with_reducible assumption) | assumption)
                      have q14 : x3_1 < (a0.size : Int) := of_decide_eq_true (by first | (with_reducible assumption) | assumption)
                      have hx14 := bt_at a0 x3_1
                      replace p14 := eq_true p14
                      replace q14 := eq_true q14
                      go_wp2
                      go_ret
                      exact ⟨by first | rfl | (simp; done) | (simp [*]; done), by repeat (first | exact Drawn0.refl _ | apply Drawn0.step)⟩
          · rw [if_neg c5] at H
            have c5b0 : decide ((bt a0 x3_1) < 48) = false := decide_eq_false c5
            clear c5
            by_cases c17 : (bt a0 x3_1) > 57
            · rw [if_pos c17] at H
              have c17b0 : decide (57 < (bt a0 x3_1)) = true := decide_eq_true c17
              clear c17
              by_cases c19 : (bt a0 x3_1) = 46
              · rw [if_pos c19] at H
                have c19b0 : ((bt a0 x3_1) == 46) = true := beq_iff_eq.mpr c19
                have c19b1 : ((bt a0 x3_1) != 46) = false := bne_eq_false_iff_eq.mpr c19
                clear c19
                have H' := Aside0.mk H
                clear H
                have p4 : 0 ≤ (x3_1 : Int) := of_decide_eq_true (by first | (with_reducible assumption) | assumption)
                have q4 : x3_1 < (a0.size : Int) := of_decide_eq_true (by first | (with_reducible assumption) | assumption)
                have hx4 := bt_at a0 x3_1
                replace p4 := eq_true p4
                replace q4 := eq_true q4
                have p16 : 0 ≤ (x3_1 : Int) := of_decide_eq_true (by first | (with_reducible assumption) | assumption)
                have q16 : x3_1 < (a0.size : Int) := of_decide_eq_true (by first | (with_reducible assumption) | assumption)
                have hx16 := bt_at a0 x3_1
                replace p16 := eq_true p16
                replace q16 := eq_true q16
                have p18 : 0 ≤ (x3_1 : Int) := of_decide_eq_true (by first | (with_reducible assumption) | assumption)
                have q18 : x3_1 < (a0.size : Int) := of_decide_eq_true (by first | (with_reducible assumption) | assumption)
                have hx18 := bt_at a0 x3_1
                replace p18 := eq_true p18
                replace q18 := eq_true q18
                go_wp2
                go_roundg k1
                case measure => have := HK1.out; omega
                case rel => exact ⟨(wrap64 (x3_1 + 1)), (by first | rfl | (simp; done) | (simp [*]; done)), H', ⟨by have := HK1.out; omega⟩, by repeat (first | exact Drawn0.refl _ | apply Drawn0.step)⟩
              · rw [if_neg c19] at H
                have c19b0 : ((bt a0 x3_1) == 46) = false := beq_eq_false_iff_ne.mpr c19
                have c19b1 : ((bt a0 x3_1) != 46) = true := bne_iff_ne.mpr c19
                by_cases c21 : (bt a0 x3_1) = 120
                · rw [if_pos c21] at H
                  have c21b0 : ((bt a0 x3_1) == 120) = true := beq_iff_eq.mpr c21
                  have c21b1 : ((bt a0 x3_1) != 120) = false := bne_eq_false_iff_eq.mpr c21
                  clear c21
                  have H' := Aside0.mk H
                  clear H
                  have p4 : 0 ≤ (x3_1 : Int) := of_decide_eq_true (by first | (with_reducible assumption) | assumption)
                  have q4 : x3_1 < (a0.size : Int) := of_decide_eq_true (by first | (with_reducible assumption) | assumption)
                  have hx4 := bt_at a0 x3_1
                  replace p4 := eq_true p4
                  replace q4 := eq_true q4
                  have p16 : 0 ≤ (x3_1 : Int) := of_decide_eq_true (by first | (with_reducible assumption) | assumption)
                  have q16 : x3_1 < (a0.size : Int) := of_decide_eq_true (by first | (with_reducible assumption) | assumption)
                  have hx16 := bt_at a0 x3_1
                  replace p16 := eq_true p16
                  replace q16 := eq_true q16
                  have p18 : 0 ≤ (x3_1 : Int) := of_decide_eq_true (by first | (with_reducible assumption) | assumption)
                  have q18 : x3_1 < (a0.size : Int) := of_decide_eq_true (by first | (with_reducible assumption) | assumption)
                  have hx18 := bt_at a0 x3_1
                  replace p18 := eq_true p18
                  replace q18 := eq_true q18
                  have p20 : 0 ≤ (x3_1 : Int) := of_decide_eq_true (by first | (with_reducible assumption) | assumption)
                  have q20 : x3_1 < (a0.size : Int) := of_decide_eq_true (by first | (with_reducible assumption) | assumption)
                  have hx20 := bt_at a0 x3_1
                  replace p20 := eq_true p20
                  replace q20 := eq_true q20
                  go_wp2
                  go_roundg k1
                  case measure => have := HK1.out; omega
                  case rel => exact ⟨(wrap64 (x3_1 + 1)), (by first | rfl | (simp; done) | (simp [*]; done)), H', ⟨by have := HK1.out; omega⟩, by repeat (first | exact Drawn0.refl _ | apply Drawn0.step)⟩
                · rw [if_neg c21] at H
                  have c21b0 : ((bt a0 x3_1) == 120) = false := beq_eq_false_iff_ne.mpr c21
                  have c21b1 : ((bt a0 x3_1) != 120) = true := bne_iff_ne.mpr c21
                  by_cases c23 : (bt a0 x3_1) = 88
                  · rw [if_pos c23] at H
                    have c23b0 : ((bt a0 x3_1) == 88) = true := beq_iff_eq.mpr c23
                    have c23b1 : ((bt a0 x3_1) != 88) = false := bne_eq_false_iff_eq.mpr c23
                    clear c23
                    have H' := Aside0.mk H
                    clear H
                    have p4 : 0 ≤ (x3_1 : Int) := of_decide_eq_true (by first | (with_reducible assumption) | assumption)
                    have q4 : x3_1 < (a0.size : Int) := of_decide_eq_true (by first | (with_reducible assumption) | assumption)
                    have hx4 := bt_at a0 x3_1
                    replace p4 := eq_true p4
                    replace q4 := eq_true q4
                    have p16 : 0 ≤ (x3_1 : Int) := of_decide_eq_true (by first | (with_reducible assumption) | assumption)
                    have q16 : x3_1 < (a0.size : Int) := of_decide_eq_true (by first | (with_reducible assumption) | assumption)
                    have hx16 := bt_at a0 x3_1
                    replace p16 := eq_true p16
                    replace q16 := eq_true q16
                    have p18 : 0 ≤ (x3_1 : Int) := of_decide_eq_true (by first | (with_reducible assumption) | assumption)
                    have q18 : x3_1 < (a0.size : Int) := of_decide_eq_true (by first | (with_reducible assumption) | assumption)
                    have hx18 := bt_at a0 x3_1
                    replace p18 := eq_true p18
                    replace q18 := eq_true q18
                    have p20 : 0 ≤ (x3_1 : Int) := of_decide_eq_true (by first | (with_reducible assumption) | assumption)
                    have q20 : x3_1 < (a0.size : Int) := of_decide_eq_true (by first | (with_reducible assumption) | assumption)
                    have hx20 := bt_at a0 x3_1
                    replace p20 := eq_true p20
                    replace q20 := eq_true q20
                    have p22 : 0 ≤ (x3_1 : Int) := of_decide_eq_true (by first | (with_reducible assumption) | assumption)
                    have q22 : x3_1 < (a0.size : Int) := of_decide_eq_true (by first | (with_reducible assumption) | assumption)
                    have hx22 := bt_at a0 x3_1
                    replace p22 := eq_true p22
                    replace q22 := eq_true q22
                    go_wp2
                    go_roundg k1
                    case measure => have := HK1.out; omega
                    case rel => exact ⟨(wrap64 (x3_1 + 1)), (by first | rfl | (simp; done) | (simp [*]; done)), H', ⟨by have := HK1.out; omega⟩, by repeat (first | exact Drawn0.refl _ | apply Drawn0.step)⟩
                  · rw [if_neg c23] at H
                    have c23b0 : ((bt a0 x3_1) == 88) = false := beq_eq_false_iff_ne.mpr c23
                    have c23b1 : ((bt a0 x3_1) != 88) = true := bne_iff_ne.mpr c23
                    by_cases c25 : (bt a0 x3_1) = 42
                    · rw [if_pos c25] at H
                      have c25b0 : ((bt a0 x3_1) == 42) = true := beq_iff_eq.mpr c25
                      have c25b1 : ((bt a0 x3_1) != 42) = false := bne_eq_false_iff_eq.mpr c25
                      clear c25
                      have H' := Aside0.mk H
                      clear H
                      have p4 : 0 ≤ (x3_1 : Int) := of_decide_eq_true (by first | (with_reducible assumption) | assumption)
                      have q4 : x3_1 < (a0.size : Int) := of_decide_eq_true (by first | (with_reducible assumption) | assumption)
                      have hx4 := bt_at a0 x3_1
                      replace p4 := eq_true p4
                      replace q4 := eq_true q4
                      have p16 : 0 ≤ (x3_1 : Int) := of_decide_eq_true (by first | (with_reducible assumption) | assumption)
                      have q16 : x3_1 < (a0.size : Int) := of_decide_eq_true (by first | (with_reducible assumption) | assumption)
                      have hx16 := bt_at a0 x3_1
                      replace p16 := eq_true p16
                      replace q16 := eq_true q16
                      have p18 : 0 ≤ (x3_1 : Int) := of_decide_eq_true (by first | (with_reducible assumption) | assumption)
                      have q18 : x3_1 < (a0.size : Int) := of_decide_eq_true (by first | (with_reducible assumption) | assumption)
                      have hx18 := bt_at a0 x3_1
                      replace p18 := eq_true p18
                      replace q18 := eq_true q18
                      have p20 : 0 ≤ (x3_1 : Int) := of_decide_eq_true (by first | (with_reducible assumption) | assumption)
                      have q20 : x3_1 < (a0.size : Int) := of_decide_eq_true (by first | (with_reducible assumption) | assumption)
                      have hx20 := bt_at a0 x3_1
                      replace p20 := eq_true p20
                      replace q20 := eq_true q20
                      have p22 : 0 ≤ (x3_1 : Int) := of_decide_eq_true (by first | (with_reducible assumption) | assumption)
                      have q22 : x3_1 < (a0.size : Int) := of_decide_eq_true (by first | (with_reducible assumption) | assumption)
                      have hx22 := bt_at a0 x3_1
                      replace p22 := eq_true p22
                      replace q22 := eq_true q22
                      have p24 : 0 ≤ (x3_1 : Int) := of_decide_eq_true (by first | (with_reducible assumption) | assumption)
                      have q24 : x3_1 < (a0.size : Int) := of_decide_eq_true (by first | (with_reducible assumption) | assumption)
                      have hx24 := bt_at a0 x3_1
                      replace p24 := eq_true p24
                      replace q24 := eq_true q24
                      go_wp2
                      go_roundg k1
                      case measure => have := HK1.out; omega
                      case rel => exact ⟨(wrap64 (x3_1 + 1)), (by first | rfl | (simp; done) | (simp [*]; done)), H', ⟨by have := HK1.out; omega⟩, by repeat (first | exact Drawn0.refl _ | apply Drawn0.step)⟩
                    · rw [if_neg c25] at H
                      have c25b0 : ((bt a0 x3_1) == 42) = false := beq_eq_false_iff_ne.mpr c25
                      have c25b1 : ((bt a0 x3_1) != 42) = true := bne_iff_ne.mpr c25
                      by_cases c27 : (bt a0 x3_1) = 118
                      · rw [if_pos c27] at H
                        have c27b0 : ((bt a0 x3_1) == 118) = true := beq_iff_eq.mpr c27
                        have c27b1 : ((bt a0 x3_1) != 118) = false := bne_eq_false_iff_eq.mpr c27
                        clear c27
                        have H' := Aside0.mk H
                        clear H
                        have p4 : 0 ≤ (x3_1 : Int) := of_decide_eq_true (by first | (with_reducible assumption) | assumption)
                        have q4 : x3_1 < (a0.size : Int) := of_decide_eq_true (by first | (with_reducible assumption) | assumption)
                        have hx4 := bt_at a0 x3_1
                        replace p4 := eq_true p4
                        replace q4 := eq_true q4
                        have p16 : 0 ≤ (x3_1 : Int) := of_decide_eq_true (by first | (with_reducible assumption) | assumption)
                        have q16 : x3_1 < (a0.size : Int) := of_decide_eq_true (by first | (with_reducible assumption) | assumption)
                        have hx16 := bt_at a0 x3_1
                        replace p16 := eq_true p16
                        replace q16 := eq_true q16
                        have p18 : 0 ≤ (x3_1 : Int) := of_decide_eq_true (by first | (with_reducible assumption) | assumption)
                        have q18 : x3_1 < (a0.size : Int) := of_decide_eq_true (by first | (with_reducible assumption) | assumption)
                        have hx18 := bt_at a0 x3_1
                        replace p18 := eq_true p18
                        replace q18 := eq_true q18
                        have p20 : 0 ≤ (x3_1 : Int) := of_decide_eq_true (by first | (with_reducible assumption) | assumption)
                        have q20 : x3_1 < (a0.size : Int) := of_decide_eq_true (by first | (with_reducible assumption) | assumption)
                        have hx20 := bt_at a0 x3_1
                        replace p20 := eq_true p20
                        replace q20 := eq_true q20
                        have p22 : 0 ≤ (x3_1 : Int) := of_decide_eq_true (by first | (with_reducible assumption) | assumption)
                        have q22 : x3_1 < (a0.size : Int) := of_decide_eq_true (by first | (with_reducible assumption) | assumption)
                        have hx22 := bt_at a0 x3_1
                        replace p22 := eq_true p22
                        replace q22 := eq_true q22
                        have p24 : 0 ≤ (x3_1 : Int) := of_decide_eq_true (by first | (with_reducible assumption) | assumption)
                        have q24 : x3_1 < (a0.size : Int) := of_decide_eq_true (by first | (with_reducible assumption) | assumption)
                        have hx24 := bt_at a0 x3_1
                        replace p24 := eq_true p24
                        replace q24 := eq_true q24
                        have p26 : 0 ≤ (x3_1 : Int) := of_decide_eq_true (by first | (with_reducible assumption) | assumption)
                        have q26 : x3_1 < (a0.size : Int) := of_decide_eq_true (by first | (with_reducible assumption) | assumption)
                        have hx26 := bt_at a0 x3_1
                        replace p26 := eq_true p26
                        replace q26 := eq_true q26
                        go_wp2
                        go_roundg k1
                        case measure => have := HK1.out; omega
                        case rel => exact ⟨(wrap64 (x3_1 + 1)), (by first | rfl | (simp; done) | (simp [*]; done)), H', ⟨by have := HK1.out; omega⟩, by repeat (first | exact Drawn0.refl _ | apply Drawn0.step)⟩
                      · rw [if_neg c27] at H
                        have c27b0 : ((bt a0 x3_1) == 118) = false := beq_eq_false_iff_ne.mpr c27
                        have c27b1 : ((bt a0 x3_1) != 118) = true := bne_iff_ne.mpr c27
                        obtain rfl := Option.some.inj H
                        have p4 : 0 ≤ (x3_1 : Int) := of_decide_eq_true (by first | (with_reducible assumption) | assumption)
                        have q4 : x3_1 < (a0.size : Int) := of_decide_eq_true (by first | (with_reducible assumption) | assumption)
                        have hx4 := bt_at a0 x3_1
                        replace p4 := eq_true p4
                        replace q4 := eq_true q4
                        have p16 : 0 ≤ (x3_1 : Int) := of_decide_eq_true (by first | (with_reducible assumption) | assumption)
                        have q16 : x3_1 < (a0.size : Int) := of_decide_eq_true (by first | (with_reducible assumption) | assumption)
                        have hx16 := bt_at a0 x3_1
                        replace p16 := eq_true p16
                        replace q16 := eq_true q16
                        have p18 : 0 ≤ (x3_1 : Int) := of_decide_eq_true (by first | (with_reducible assumption) | assumption)
                        have q18 : x3_1 < (a0.size : Int) := of_decide_eq_true (by first | (with_reducible assumption) | assumption)
                        have hx18 := bt_at a0 x3_1
                        replace p18 := eq_true p18
                        replace q18 := eq_true q18
                        have p20 : 0 ≤ (x3_1 : Int) := of_decide_eq_true (by first | (with_reducible assumption) | assumption)
                        have q20 : x3_1 < (a0.size : Int) := of_decide_eq_true (by first | (with_reducible assumption) | assumption)
                        have hx20 := bt_at a0 x3_1
                        replace p20 := eq_true p20
                        replace q20 := eq_true q20
                        have p22 : 0 ≤ (x3_1 : Int) := of_decide_eq_true (by first | (with_reducible assumption) | assumption)
                        have q22 : x3_1 < (a0.size : Int) := of_decide_eq_true (by first | (with_reducible assumption) | assumption)
                        have hx22 := bt_at a0 x3_1
                        replace p22 := eq_true p22
                        replace q22 := eq_true q22
                        have p24 : 0 ≤ (x3_1 : Int) := of_decide_eq_true (by first | (with_reducible assumption) | assumption)
                        have q24 : x3_1 < (a0.size : Int) := of_decide_eq_true (by first | (with_reducible assumption) | assumption)
                        have hx24 := bt_at a0 x3_1
                        replace p24 := eq_true p24
                        replace q24 := eq_true q24
                        have p26 : 0 ≤ (x3_1 : Int) := of_decide_eq_true (by first | (with_reducible assumption) | assumption)
                        have q26 : x3_1 < (a0.size : Int) := of_decide_eq_true (by first | (with_reducible assumption) | assumption)
                        have hx26 := bt_at a0 x3_1
                        replace p26 := eq_true p26
                        replace q26 := eq_true q26
                        go_wp2
                        go_ret
                        exact ⟨by first | rfl | (simp; done) | (simp [*]; done), by repeat (first | exact Drawn0.refl _ | apply Drawn0.step)⟩
            · rw [if_neg c17] at H
              have c17b0 : decide (57 < (bt a0 x3_1)) = false := decide_eq_false c17
              clear c17
              have H' := Aside0.mk H
              clear H
              have p4 : 0 ≤ (x3_1 : Int) := of_decide_eq_true (by first | (with_reducible assumption) | assumption)
              have q4 : x3_1 < (a0.size : Int) := of_decide_eq_true (by first | (with_reducible assumption) | assumption)
              have hx4 := bt_at a0 x3_1
              replace p4 := eq_true p4
              replace q4 := eq_true q4
              have p16 : 0 ≤ (x3_1 : Int) := of_decide_eq_true (by first | (with_reducible assumption) | assumption)
              have q16 : x3_1 < (a0.size : Int) := of_decide_eq_true (by first | (with_reducible assumption) | assumption)
              have hx16 := bt_at a0 x3_1
              replace p16 := eq_true p16
              replace q16 := eq_true q16
              go_wp2
              go_roundg k1
              case measure => have := HK1.out; omega
              case rel => exact ⟨(wrap64 (x3_1 + 1)), (by first | rfl | (simp; done) | (simp [*]; done)), H', ⟨by have := HK1.out; omega⟩, by repeat (first | exact Drawn0.refl _ | apply Drawn0.step)⟩
        · rw [if_neg c3] at H
          exact absurd H (by simp)
      · rw [if_neg c2] at H
        have c2b0 : decide (x3_1 < (a0.size : Int)) = false := decide_eq_false c2
        clear c2
        obtain rfl := Option.some.inj H
        go_wp2
        go_ret
        exact ⟨by first | rfl | (simp; done) | (simp [*]; done), by repeat (first | exact Drawn0.refl _ | apply Drawn0.step)⟩

end Go.Proofs.YtgoeiflddikihaaGreatDoor.PFnIntersectAny
end
section
namespace Go.Proofs.YtgoeiflddikihaaGreatDoor.Ver
set_option linter.unusedSimpArgs false
open Go.RowKit Go.Proofs.YtgoeiflddikihaaGreatDoor.Dig Go.Proofs.YtgoeiflddikihaaGreatDoorW.PrintWords Go.Proofs.YtgoeiflddikihaaGreatDoor.Mem

theorem rowV : RowT Tryz.prog 197 6 := ⟨⟨_, Tryz.underlying197, rfl⟩, by kernel_rfl⟩
theorem rowP : RowT Tryz.prog 242 17 := ⟨⟨_, Tryz.underlying242, rfl⟩, by kernel_rfl⟩
theorem oneB : OneT Tryz.prog 4 := ⟨⟨_, Tryz.underlying4, rfl⟩, by kernel_rfl⟩
theorem oneU : OneT Tryz.prog 46 := ⟨⟨_, Tryz.underlying46, rfl⟩, by kernel_rfl⟩
theorem zeroV : (Tryz.prog.info? 197).bind (fun i => i.zero.map (·.cells)) = some zSV := by kernel_rfl
theorem zeroP : (Tryz.prog.info? 242).bind (fun i => i.zero.map (·.cells)) = some zP := by kernel_rfl
theorem bs_one (cs : Array Value) (h : cs.size = 17) : Tryz.prog.builtSlice 242 1 [(0, .agg cs)] = some cs := by
  obtain ⟨iv, hvi, hvz0, hvz1, _⟩ := info_parts infoP
  unfold Program.builtSlice
  simp only [hvi, hvz0, hvz1]
  rw [if_neg (by decide)]
  exact fill_one cs _ h (by rw [Array.size_map, Array.size_range])

abbrev tc120 : ByteArray := ⟨#[94, 49, 46, 50, 46, 48]⟩
theorem trim120 (w : World) : Calls Tryz.prog 142 #[.string t120] w fun e w' => e = .returned (.string t120) ∧ Drawn0 w w' :=
  PFnIntersectAny.semver_trim.calls 10 t120 t120 w (by kernel_rfl)
set_option maxRecDepth 20000 in
set_option maxHeartbeats 4000000 in
theorem read1_120 (w : World) (hv : Vars w) : Calls Tryz.prog 141 #[.string tc120, .bool false] w fun e w' => ∃ r, e = .returned (.tuple #[.iface 238 (.agg #[r]), .nilIface]) ∧ w'.ownsRow w.heap.size 242 17 r 1 (pcs v120 ⟨2, 0, 0, ⟨#[]⟩, ⟨#[]⟩, ⟨#[]⟩⟩ true true true false).toList ∧ Below w.heap.size w w' := by
  have HP := Lib.hid (fun W hb => partial120 W (Vars.below (w := w) hv hb))
  have HM := Aside0.mk (Blks.start w)
  have HA3 := Lib.hid (fun W => after_3 v120 (by decide) (by decide) W)
  have HA1 := Lib.hid (fun W => after_1 v120 (by decide) (by decide) W)
  dsimp only [v120, SV.cells] at HP HA3 HA1
  rw [show (0 : Int) + 1 = 1 from rfl] at HA3
  rw [show (1 : Int) + 1 = 2 from rfl] at HA1
  have hx1 : tc120.extract 1 6 = t120 := by kernel_rfl
  have hx2 : (⟨#[]⟩ : ByteArray) ++ tc120.extract 0 1 = ⟨#[94]⟩ := by kernel_rfl
  clear hv
  go_enter Tryz.func141, Tryz.ntmps141
  go_wp2_with fail
  refine wp_loop_rounds 2 ?_
  rw [rounds_succ]
  go_wp2_with fail
  rw [rounds_succ]
  go_wp2_with (first
    | (go_at_call 142; ((with_reducible refine (trim120 _).mono ?_); rintro e w4 ⟨rfl, ⟨n4, rfl⟩⟩))
    | (go_at_call 150; ((with_reducible refine (HP.out _ (Blks.bel (by repeat (first | exact HM.out | apply Blks.drewN | apply Blks.drew | apply Blks.other)))).mono ?_); rintro e w5 ⟨rfl, hb⟩; have HN := Aside0.mk (Blks.call (by repeat (first | exact HM.out | apply Blks.drewN | apply Blks.drew | apply Blks.other)) hb); clear HM hb; have HM := HN; clear HN))
    | (go_at_call 151; ((with_reducible refine (HA3.out _).mono ?_); rintro e w6 ⟨rfl, hb⟩; have HN := Aside0.mk (Blks.call (by repeat (first | exact HM.out | apply Blks.drewN | apply Blks.drew | apply Blks.other)) hb); clear HM hb; have HM := HN; clear HN))
    | (go_at_call 151; ((with_reducible refine (HA1.out _).mono ?_); rintro e w7 ⟨rfl, hb⟩; have HN := Aside0.mk (Blks.call (by repeat (first | exact HM.out | apply Blks.drewN | apply Blks.drew | apply Blks.other)) hb); clear HM hb; have HM := HN; clear HN))
    | (refine bk_load (by rfl) (by rfl) (by rfl) (by repeat (first | exact HM.out | apply Blks.drewN | apply Blks.drew | apply Blks.other)) (by repeat (first | exact List.Mem.head _ | apply List.Mem.tail)) (by first | exact rowV | exact rowP) (by repeat (first | exact Rd.nil | apply Rd.here | apply Rd.skip)) ?_)
    | (refine bk_load1 (by rfl) (by rfl) (by rfl) (by repeat (first | exact HM.out | apply Blks.drewN | apply Blks.drew | apply Blks.other)) (by repeat (first | exact List.Mem.head _ | apply List.Mem.tail)) (by first | exact oneU | exact oneB) (by repeat (first | exact Rd.nil | apply Rd.here | apply Rd.skip)) ?_)
    | (refine bk_store (by rfl) (by rfl) (by rfl) (by rfl) (by rfl) (by repeat (first | exact HM.out | apply Blks.drewN | apply Blks.drew | apply Blks.other)) (by first | exact rowV | exact rowP) (by rfl) (by simp [Value.oneCell']) (by repeat (first | exact List.Mem.head _ | apply List.Mem.tail)) (by repeat (first | exact Wr.nil | apply Wr.here | apply Wr.skip)) (by repeat (first | exact Up.here | apply Up.skip)) ?_; intro _ HN; clear HM; have HM := Aside0.mk HN; clear HN)
    | (refine bk_store1 (by rfl) (by rfl) (by rfl) (by rfl) (by first | exact (rfl : _ = Value.bool _) | exact (rfl : _ = Value.int _ _) | exact (rfl : _ = Value.string _) | exact (rfl : _ = Value.slice _ _ _) | exact (rfl : _ = Value.iface _ _) | exact (rfl : _ = Value.nilIface) | exact (rfl : _ = Value.pointer _)) (by repeat (first | exact HM.out | apply Blks.drewN | apply Blks.drew | apply Blks.other)) (by first | exact oneB) (by rfl) (by repeat (first | exact List.Mem.head _ | apply List.Mem.tail)) (by repeat (first | exact Wr.nil | apply Wr.here | apply Wr.skip)) (by repeat (first | exact Up.here | apply Up.skip)) ?_; intro _ HN; clear HM; have HM := Aside0.mk HN; clear HN)
    | (refine bk_alloc (by rfl) (by rfl) (by repeat (first | exact HM.out | apply Blks.drewN | apply Blks.drew | apply Blks.other)) (by first | exact zeroV | exact zeroP) ?_; intro _ _ HN; clear HM; have HM := Aside0.mk HN; clear HN)
    | (refine bk_slice (by rfl) (by rfl) (by repeat (first | exact HM.out | apply Blks.drewN | apply Blks.drew | apply Blks.other)) Tryz.underlying236 (by rw [Array.toList_map]; exact bs_one _ rfl) ?_; intro _ _ HN; clear HM; have HM := Aside0.mk HN; clear HN))
  go_ret2
  exact ⟨_, rfl, Blks.row HM.out (List.Mem.head _) rfl (by unfold maxLen; omega), HM.out.bel⟩
end Go.Proofs.YtgoeiflddikihaaGreatDoor.Ver
end
