/- Merged by program out of: Mem, Mem2, Mem3, Drawn, Vsl, Vsl2. -/
import Derived.WalkKit
import Derived.Deep.MidRow
import Derived.Great.Walk
import Derived.Below
import Derived.Lib.Hide
import Derived.Test.YtgoeiflddikihaaGreatDoorCdM0
import Derived.Deep.RegionHeld
import Derived.OrdersHeld
import Derived.Test.YtgoeiflddikihaaGreatDoorCdM3
import Derived.Deep.AppendSrc
section
namespace Go.Proofs.YtgoeiflddikihaaGreatDoor.Mem
open Go.RowKit
abbrev Blk := Nat × List Value × TypeId
structure Blks (w0 w : World) (L : List Blk) : Prop where
  bel : Below w0.heap.size w0 w
  has : ∀ x ∈ L, w.heap[x.1]? = some (.cells x.2.1.toArray x.2.2 (0, 0))
  new : ∀ x ∈ L, w0.heap.size ≤ x.1
  nd : (L.map (·.1)).Nodup
theorem hsz (w : World) (o : Obj) : (w.alloc o).heap.size = w.heap.size + 1 := by
  show (w.heap.push o).size = _
  simp
theorem hnew (w : World) (o : Obj) : (w.alloc o).heap[w.heap.size]? = some o := by
  show (w.heap.push o)[w.heap.size]? = _
  simp
theorem hlt {w : World} {g : Nat} {o : Obj} (h : w.heap[g]? = some o) : g < w.heap.size := (Array.getElem?_eq_some_iff.1 h).1
theorem Blks.start (w : World) : Blks w w [] := ⟨Below.refl _ _, by simp, by simp, by simp⟩
theorem Blks.call {w0 w w1 : World} {L : List Blk} (h : Blks w0 w L) (hb : Below w.heap.size w w1) : Blks w0 w1 L :=
  ⟨h.bel.trans (hb.mono h.bel.size), fun x hx => (hb.block x.1 (hlt (h.has x hx))).trans (h.has x hx), h.new, h.nd⟩
theorem Blks.drewN {w0 w : World} {L : List Blk} (h : Blks w0 w L) (n : Nat) : Blks w0 (w.drewN n) L := h.call ⟨rfl, rfl, rfl, Nat.le_refl _, fun _ _ => rfl⟩
theorem Blks.drew {w0 w : World} {L : List Blk} (h : Blks w0 w L) : Blks w0 w.drew L := h.call ⟨rfl, rfl, rfl, Nat.le_refl _, fun _ _ => rfl⟩
theorem Blks.alloc {w0 w : World} {L : List Blk} (h : Blks w0 w L) (cs : Array Value) (t : TypeId) : Blks w0 (w.alloc (.cells cs t)) ((w.heap.size, cs.toList, t) :: L) := by
  refine ⟨h.bel.alloc h.bel.size _, ?_, ?_, ?_⟩
  · intro x hx
    rcases List.mem_cons.1 hx with rfl | hx
    · exact hnew w _
    · exact (Below.heap_alloc w _ x.1 (hlt (h.has x hx))).trans (h.has x hx)
  · intro x hx
    rcases List.mem_cons.1 hx with rfl | hx
    · exact h.bel.size
    · exact h.new x hx
  · rw [List.map_cons, List.nodup_cons]
    refine ⟨?_, h.nd⟩
    intro hm
    obtain ⟨x, hx, e⟩ := List.mem_map.1 hm
    have := hlt (h.has x hx)
    simp only at e
    omega
theorem Blks.other {w0 w : World} {L : List Blk} (h : Blks w0 w L) (o : Obj) : Blks w0 (w.alloc o) L :=
  h.call ⟨rfl, rfl, rfl, by rw [hsz]; omega, fun k hk => Below.heap_alloc w o k hk⟩
theorem Blks.drop {w0 w : World} {L : List Blk} {x : Blk} (h : Blks w0 w (x :: L)) : Blks w0 w L :=
  ⟨h.bel, fun y hy => h.has y (List.mem_cons_of_mem _ hy), fun y hy => h.new y (List.mem_cons_of_mem _ hy), (List.nodup_cons.1 h.nd).2⟩
inductive Rd : List Value → Nat → Nat → List Value → Prop
  | nil {cs : List Value} : Rd cs 0 0 []
  | here {c : Value} {cs vs : List Value} {n : Nat} (h : Rd cs 0 n vs) : Rd (c :: cs) 0 (n + 1) (c :: vs)
  | skip {c : Value} {cs vs : List Value} {o n : Nat} (h : Rd cs o n vs) : Rd (c :: cs) (o + 1) n vs
theorem Rd.len {cs : List Value} {o n : Nat} {vs : List Value} (h : Rd cs o n vs) : vs.length = n := by
  induction h with
  | nil => rfl
  | here _ ih => simp [ih]
  | skip _ ih => exact ih
theorem Rd.at_ {cs : List Value} {o n : Nat} {vs : List Value} (h : Rd cs o n vs) : ∀ j v, vs[j]? = some v → cs[o + j]? = some v := by
  induction h with
  | nil => intro j v hv; simp at hv
  | here _ ih =>
    intro j v hv
    cases j with
    | zero => simpa using hv
    | succ j => simpa using ih j v (by simpa using hv)
  | skip _ ih =>
    intro j v hv
    rw [show ∀ o j : Nat, o + 1 + j = (o + j) + 1 from fun o j => by omega]
    simpa using ih j v hv
inductive Wr : List Value → Nat → List Value → List Value → Prop
  | nil {cs : List Value} : Wr cs 0 [] cs
  | here {c v : Value} {cs vs cs' : List Value} (h : Wr cs 0 vs cs') : Wr (c :: cs) 0 (v :: vs) (v :: cs')
  | skip {c : Value} {cs vs cs' : List Value} {o : Nat} (h : Wr cs o vs cs') : Wr (c :: cs) (o + 1) vs (c :: cs')
theorem Wr.len {cs : List Value} {o : Nat} {vs cs' : List Value} (h : Wr cs o vs cs') : cs'.length = cs.length ∧ o + vs.length ≤ cs.length := by
  induction h with
  | nil => simp
  | here _ ih => simp; omega
  | skip _ ih => simp; omega
theorem Wr.eq {cs : List Value} {o : Nat} {vs cs' : List Value} (h : Wr cs o vs cs') : cs' = cs.take o ++ vs ++ cs.drop (o + vs.length) := by
  induction h with
  | nil => simp
  | here _ ih => simp at ih ⊢; rw [ih]
  | skip _ ih => simp at ih ⊢; rw [ih]; simp [Nat.add_right_comm]
inductive Up : List Blk → Nat → List Value → TypeId → List Value → List Blk → Prop
  | here {b : Nat} {cs cs' : List Value} {t : TypeId} {L : List Blk} : Up ((b, cs, t) :: L) b cs t cs' ((b, cs', t) :: L)
  | skip {x : Blk} {b : Nat} {cs cs' : List Value} {t : TypeId} {L L' : List Blk} (h : Up L b cs t cs' L') : Up (x :: L) b cs t cs' (x :: L')
theorem Up.mem {L L' : List Blk} {b : Nat} {cs cs' : List Value} {t : TypeId} (h : Up L b cs t cs' L') : (b, cs, t) ∈ L := by
  induction h with
  | here => simp
  | skip _ ih => exact List.mem_cons_of_mem _ ih
theorem Up.keys {L L' : List Blk} {b : Nat} {cs cs' : List Value} {t : TypeId} (h : Up L b cs t cs' L') : L'.map (·.1) = L.map (·.1) := by
  induction h with
  | here => rfl
  | skip _ ih => simp [ih]
theorem Up.back {L L' : List Blk} {b : Nat} {cs cs' : List Value} {t : TypeId} (h : Up L b cs t cs' L') (hn : (L.map (·.1)).Nodup) : ∀ x ∈ L', x = (b, cs', t) ∨ x ∈ L ∧ x.1 ≠ b := by
  induction h with
  | here =>
    rename_i b cs cs' t L
    intro x hx
    rw [List.map_cons, List.nodup_cons] at hn
    rcases List.mem_cons.1 hx with rfl | hx
    · exact Or.inl rfl
    · refine Or.inr ⟨List.mem_cons_of_mem _ hx, fun e => hn.1 ?_⟩
      exact List.mem_map.2 ⟨x, hx, e⟩
  | skip hu ih =>
    rename_i y b cs cs' t L L'
    intro x hx
    rw [List.map_cons, List.nodup_cons] at hn
    rcases List.mem_cons.1 hx with rfl | hx
    · refine Or.inr ⟨by simp, fun e => hn.1 ?_⟩
      rw [e]; exact List.mem_map.2 ⟨_, hu.mem, rfl⟩
    · rcases ih hn.2 x hx with h | ⟨h1, h2⟩
      · exact Or.inl h
      · exact Or.inr ⟨List.mem_cons_of_mem _ h1, h2⟩
theorem heap_setCells_other (b : Nat) : ∀ (vs : List Value) (o : Nat) (w : World) (k : Nat), k ≠ b → (w.setCells b o vs).heap[k]? = w.heap[k]?
  | [], _, _, _, _ => rfl
  | v :: r, o, w, k, h => by
    rw [World.setCells, heap_setCells_other b r (o + 1) _ k h]
    exact Below.heap_setCell w ⟨b, o, none⟩ v k h
theorem heap_setCells_same (b : Nat) (t : TypeId) : ∀ (vs : List Value) (o : Nat) (w : World) (cs : Array Value), o + vs.length ≤ cs.size → w.heap[b]? = some (.cells cs t (0, 0)) →
    (w.setCells b o vs).heap[b]? = some (.cells (cs.toList.take o ++ vs ++ cs.toList.drop (o + vs.length)).toArray t (0, 0))
  | [], o, w, cs, h, hb => by rw [World.setCells]; simpa using hb
  | v :: r, o, w, cs, h, hb => by
    simp only [List.length_cons] at h
    have h1 : (w.setCell ⟨b, o, none⟩ v).heap[b]? = some (.cells (cs.setIfInBounds o v) t (0, 0)) := by simp [World.setCell, Array.getElem?_modify, hb]
    rw [World.setCells, heap_setCells_same b t r (o + 1) _ (cs.setIfInBounds o v) (by simp; omega) h1]
    congr 2
    apply Array.ext'
    have hk : o < cs.toList.length := by simp; omega
    simp only [Array.toList_setIfInBounds, List.length_cons]
    rw [List.drop_set_of_lt (by omega), List.take_set, List.take_succ_eq_append_getElem hk, List.set_append_right _ _ (by simp; omega)]
    have e : o - (List.take o cs.toList).length = 0 := by rw [List.length_take]; omega
    rw [e]
    simp [Nat.add_assoc, Nat.add_comm 1]
theorem size_setCells (b : Nat) : ∀ (vs : List Value) (o : Nat) (w : World), (w.setCells b o vs).heap.size = w.heap.size ∧ (w.setCells b o vs).os = w.os ∧ (w.setCells b o vs).tape = w.tape ∧ (w.setCells b o vs).output = w.output
  | [], _, _ => ⟨rfl, rfl, rfl, rfl⟩
  | v :: r, o, w => by
    rw [World.setCells]
    obtain ⟨h1, h2, h3, h4⟩ := size_setCells b r (o + 1) (w.setCell ⟨b, o, none⟩ v)
    exact ⟨by rw [h1]; simp [World.setCell], h2, h3, h4⟩
theorem Blks.set {w0 w : World} {L L' : List Blk} (h : Blks w0 w L) {b o : Nat} {cs vs cs' : List Value} {t : TypeId} (hw : Wr cs o vs cs') (hu : Up L b cs t cs' L') : Blks w0 (w.setCells b o vs) L' := by
  have hb := h.has _ hu.mem
  have hn := h.new _ hu.mem
  obtain ⟨s1, s2, s3, s4⟩ := size_setCells b vs o w
  refine ⟨⟨s2.trans h.bel.os, s3.trans h.bel.tape, s4.trans h.bel.output, by rw [s1]; exact h.bel.size, fun k hk => ?_⟩, ?_, ?_, by rw [hu.keys]; exact h.nd⟩
  · rw [heap_setCells_other b vs o w k (by simp only at hn; omega)]
    exact h.bel.block k hk
  · intro x hx
    rcases hu.back h.nd x hx with rfl | ⟨h1, h2⟩
    · have := heap_setCells_same b t vs o w cs.toArray (by simpa using hw.len.2) hb
      simp only at this ⊢
      rw [this, hw.eq]
    · rw [heap_setCells_other b vs o w x.1 h2]
      exact h.has x h1
  · intro x hx
    have hk : x.1 ∈ L'.map (·.1) := List.mem_map.2 ⟨x, hx, rfl⟩
    rw [hu.keys] at hk
    obtain ⟨y, hy, e⟩ := List.mem_map.1 hk
    rw [← e]; exact h.new y hy
theorem Blks.range {w0 w : World} {L : List Blk} (h : Blks w0 w L) {b o n : Nat} {cs vs : List Value} {t : TypeId} (hm : (b, cs, t) ∈ L) (hr : Rd cs o n vs) : w.rangeAt b o vs := by
  intro j v hv
  have hb := h.has _ hm
  have := cell_of_row w b (o + j) cs.toArray t (0, 0) hb
  rw [this]
  simpa using hr.at_ j v hv
theorem Blks.there {w0 w : World} {L : List Blk} (h : Blks w0 w L) {b o n : Nat} {cs : List Value} {t : TypeId} (hm : (b, cs, t) ∈ L) (hn : o + n ≤ cs.length) : w.there b o n := by
  intro j hj
  have hb := h.has _ hm
  have hc := cell_of_row w b (o + j) cs.toArray t (0, 0) hb
  refine ⟨?_, by simp [World.frozen?, hb]⟩
  rw [hc]
  simp; omega
theorem Blks.cell {w0 w : World} {L : List Blk} (h : Blks w0 w L) {b o : Nat} {cs : List Value} {v : Value} {t : TypeId} (hm : (b, cs, t) ∈ L) (hr : Rd cs o 1 [v]) : w.cell? ⟨b, o, none⟩ = some v := h.range hm hr 0 v rfl
section ops
variable {P : Program} {ops : Array Oper} {rest : List Oper} {o : Oper} {a : Act} {w0 w : World} {Q : Exit → Act → World → Prop} {L L' : List Blk}
structure RowT (P : Program) (ty : TypeId) (n : Nat) : Prop where
  row : ∃ d, P.underlying ty = some d ∧ d.isRow = true
  size : (P.info? ty).map (·.size) = some n
structure OneT (P : Program) (ty : TypeId) : Prop where
  row : ∃ d, P.underlying ty = some d ∧ d.isRow = false
  size : (P.info? ty).map (·.size) = some 1
theorem bk_load (hg : o.guard = none) {ty : TypeId} {x : Operand} (ho : o.op = .load ty x) {b off : Nat} (hx : a.eval x = .pointer (some ⟨b, off, none⟩)) (H : Blks w0 w L) {cs : List Value} {t : TypeId} (hm : (b, cs, t) ∈ L)
    {n : Nat} (ht : RowT P ty n) {vs : List Value} (hr : Rd cs off n vs) (h : wpList P ops Q rest (a.put o.dst (.agg vs.toArray)) w) : wpList P ops Q (o :: rest) a w := by
  obtain ⟨d, hu, hd⟩ := ht.row
  exact wpList_load_mid hg ty x ho b off hx vs d (H.range hm hr) hu hd (by rw [ht.size, hr.len]) h
theorem bk_load1 (hg : o.guard = none) {ty : TypeId} {x : Operand} (ho : o.op = .load ty x) {b off : Nat} (hx : a.eval x = .pointer (some ⟨b, off, none⟩)) (H : Blks w0 w L) {cs : List Value} {t : TypeId} (hm : (b, cs, t) ∈ L)
    (ht : OneT P ty) {v : Value} (hr : Rd cs off 1 [v]) (h : wpList P ops Q rest (a.put o.dst v) w) : wpList P ops Q (o :: rest) a w := by
  obtain ⟨d, hu, hd⟩ := ht.row
  have hc : w.cell? ⟨b, off, none⟩ = some v := (H.range hm hr) 0 v rfl
  refine wpList_plain hg fun K hK => ?_
  unfold Oper.wp execOp
  have hrun : (loadVar ty ⟨b, off, none⟩).run P w = .ok v w := by
    have hs := ht.size
    cases hq : P.info? ty with
    | none => simp [hq] at hs
    | some i =>
      have hs : i.size = 1 := by simpa [hq] using hs
      cases d <;> first
        | (simp [TypeDesc.isRow] at hd; done)
        | (simp [loadVar, isAgg, sizeOf, typeInfo, hq, hs, run_underlying hu, hc, loadCells, go_sem]; done)
  simp only [ho, hx, Instr.loadAt, Instr.sureAddr, Sem.run_bind, Sem.run_pure, Result.andThen_ok, hrun]
  exact hK _ _ h
theorem bk_store (hg : o.guard = none) {ty : TypeId} {x y : Operand} (ho : o.op = .store ty x y) (hd : o.dst = none) {b off : Nat} (hx : a.eval x = .pointer (some ⟨b, off, none⟩)) {vs : Array Value} (hy : a.eval y = .agg vs) (H : Blks w0 w L)
    {n : Nat} (ht : RowT P ty n) (hn : vs.size = n) (h1 : vs.all (·.oneCell') = true) {cs cs' : List Value} {t : TypeId} (_hm : (b, cs, t) ∈ L) (hw : Wr cs off vs.toList cs') (hu : Up L b cs t cs' L')
    (h : ∀ w', Blks w0 w' L' → wpList P ops Q rest a w') : wpList P ops Q (o :: rest) a w := by
  have hle := hw.len.2
  rw [Array.length_toList] at hle
  refine wpList_store_mid hg ty x y ho b off vs hx hy (H.there hu.mem hle) (by rw [ht.size, hn]) h1 ?_
  rw [hd]
  exact h _ (H.set hw hu)
theorem bk_store1 (hg : o.guard = none) {ty : TypeId} {x y : Operand} (ho : o.op = .store ty x y) (hd : o.dst = none) {b off : Nat} (hx : a.eval x = .pointer (some ⟨b, off, none⟩)) {v : Value} (hy : a.eval y = v) (H : Blks w0 w L)
    (ht : OneT P ty) (h1 : v.oneCell' = true) {cs cs' : List Value} {t : TypeId} (_hm : (b, cs, t) ∈ L) (hw : Wr cs off [v] cs') (hu : Up L b cs t cs' L')
    (h : ∀ w', Blks w0 w' L' → wpList P ops Q rest a w') : wpList P ops Q (o :: rest) a w := by
  have hle := hw.len.2
  have hth := H.there (n := 1) hu.mem hle
  obtain ⟨h0, h2⟩ := hth 0 (by omega)
  refine wpList_plain hg fun K hK => ?_
  unfold Oper.wp execOp
  obtain ⟨old, hold⟩ := Option.isSome_iff_exists.1 h0
  rw [Nat.add_zero] at hold h2
  have hrun : (storeVar ty ⟨b, off, none⟩ v).run P w = .ok () (w.setCells b off [v]) := by
    have hs := ht.size
    have hcv : v.cells = #[v] := by cases v <;> first | rfl | cases h1
    have hst := run_storeCells_cells (P := P) b off [v] 0 w (fun j hj => by
      have : j = 0 := by simpa using hj
      subst this
      simpa using h0) (fun j hj => by
      have : j = 0 := by simpa using hj
      subst this
      simpa using h2) (fun u hu => by simp at hu; subst hu; exact h1)
    cases hq : P.info? ty with
    | none => simp [hq] at hs
    | some i =>
      have hs : i.size = 1 := by simpa [hq] using hs
      simp only [Nat.add_zero] at hst
      simp [storeVar, sizeOf, typeInfo, hq, hcv, hs, hst]
  simp only [ho, hx, hy, Instr.storeAt, Instr.sureAddr, Sem.run_bind, Sem.run_pure, Result.andThen_ok, hrun]
  rw [Oper.upon_skip, hd]
  exact hK _ _ (h _ (H.set hw hu))
theorem bk_alloc (hg : o.guard = none) {ty : TypeId} (ho : o.op = .alloc ty) (H : Blks w0 w L) {zs : Array Value} (hz : (P.info? ty).bind (fun i => i.zero.map (·.cells)) = some zs)
    (h : ∀ (b : Nat) (w' : World), Blks w0 w' ((b, zs.toList, ty) :: L) → wpList P ops Q rest (a.put o.dst (.pointer (some ⟨b, 0, none⟩))) w') : wpList P ops Q (o :: rest) a w := by
  refine wpList_plain hg fun K hK => ?_
  unfold Oper.wp execOp
  cases hq : P.info? ty with
  | none => simp [hq] at hz
  | some i =>
    simp only [hq, Option.bind_some] at hz
    cases hv : i.zero with
    | none => simp [hv] at hz
    | some z =>
      simp only [hv, Option.map_some, Option.some.injEq] at hz
      have hrun : (Instr.alloc ty true (.tuple #[])).run P w = .ok (.pointer (some ⟨w.heap.size, 0, none⟩)) (w.alloc (.cells zs ty)) := by
        simp [Instr.alloc, zeroValue, typeInfo, hq, hv, newVar, newRow, hz]
      simp only [ho, Sem.run_bind, hrun, Result.andThen_ok, Sem.run_pure]
      exact hK _ _ (h _ _ (H.alloc zs ty))
theorem bk_box (hg : o.guard = none) {ty : TypeId} {x : Operand} (ho : o.op = .box ty x) (H : Blks w0 w L) {cs : Array Value} (hx : a.eval x = .agg cs)
    (h : ∀ (b : Nat) (w' : World), Blks w0 w' ((b, cs.toList, ty) :: L) → wpList P ops Q rest (a.put o.dst (.pointer (some ⟨b, 0, none⟩))) w') : wpList P ops Q (o :: rest) a w :=
  Great.wpList_boxTo hg ty x ho o.dst rfl w.heap.size rfl cs (by rw [hx]; rfl) (h _ _ (H.alloc cs ty))
theorem bk_slice (hg : o.guard = none) {t e : TypeId} {len : Nat} {parts : Array (Nat × Operand)} (ho : o.op = .buildSlice t len parts) (H : Blks w0 w L) (hu : P.underlying t = some (.slice e)) {cells : Array Value}
    (hf : P.builtSlice e len (parts.map fun (i, x) => (i, a.eval x)).toList = some cells)
    (h : ∀ (b : Nat) (w' : World), Blks w0 w' ((b, cells.toList, e) :: L) → wpList P ops Q rest (a.put o.dst (.slice (some ⟨b, 0, none⟩) len len)) w') : wpList P ops Q (o :: rest) a w :=
  Great.wpList_buildSliceTo hg t e len parts ho w.heap.size rfl o.dst rfl hu cells hf (h _ _ (H.alloc cells e))
theorem bk_build (hg : o.guard = none) {t : TypeId} {parts : Array (Nat × Operand)} (ho : o.op = .build t parts) {cells : Array Value} (hf : P.built t (parts.map fun (i, x) => (i, a.eval x)).toList = some cells)
    (h : wpList P ops Q rest (a.put o.dst (.agg cells)) w) : wpList P ops Q (o :: rest) a w := wpList_buildTo hg t parts ho o.dst rfl cells hf h
theorem Blks.row (h : Blks w0 w L) {b n size : Nat} {cs : List Value} {e : TypeId} (hm : (b, cs, e) ∈ L) (hl : cs.length = n * size) (hn : n ≤ maxLen) : w.ownsRow w0.heap.size e size (.slice (some ⟨b, 0, none⟩) n n) n cs :=
  ⟨hl, Or.inr ⟨b, n, cs.toArray, rfl, h.new _ hm, h.has _ hm, Nat.le_refl _, hn, by simpa using hl, by simp [List.take_of_length_le (Nat.le_of_eq hl)]⟩⟩
end ops
end Go.Proofs.YtgoeiflddikihaaGreatDoor.Mem
end
section
namespace Go.Proofs.YtgoeiflddikihaaGreatDoor.Mem
open Go.RowKit Go.Proofs.YtgoeiflddikihaaGreatDoorW.PrintWords
theorem Blks.add {w0 w w1 : World} {L : List Blk} (h : Blks w0 w L) (hb : Below w.heap.size w w1) {g : Nat} (hg : w.heap.size ≤ g) {cs : Array Value} {t : TypeId} (hc : w1.heap[g]? = some (.cells cs t (0, 0))) {l : List Value} (hl : cs.toList = l) : Blks w0 w1 ((g, l, t) :: L) := by
  have h1 := h.call hb
  subst hl
  refine ⟨h1.bel, ?_, ?_, ?_⟩
  · intro x hx
    rcases List.mem_cons.1 hx with rfl | hx
    · exact hc
    · exact h1.has x hx
  · intro x hx
    rcases List.mem_cons.1 hx with rfl | hx
    · exact Nat.le_trans h.bel.size hg
    · exact h1.new x hx
  · rw [List.map_cons, List.nodup_cons]
    refine ⟨?_, h1.nd⟩
    intro hm
    obtain ⟨x, hx, e⟩ := List.mem_map.1 hm
    have := hlt (h.has x hx)
    simp only at e
    omega
structure RowF (n cap size : Nat) (xs rest : List Value) : Prop where
  len : xs.length = n * size
  le : n ≤ cap
  most : cap ≤ maxLen
  all : (xs ++ rest).length = cap * size
theorem row_block {w : World} {base n size : Nat} {e : TypeId} {v : Value} {xs : List Value} (h : w.ownsRow base e size v n xs) (hp : 0 < n) :
    ∃ g cap cells rest, v = .slice (some ⟨g, 0, none⟩) n cap ∧ base ≤ g ∧ w.heap[g]? = some (.cells cells e (0, 0)) ∧ cells.toList = xs ++ rest ∧ RowF n cap size xs rest := by
  obtain ⟨hl, h⟩ := h
  rcases h with ⟨_, rfl⟩ | ⟨g, cap, cur, rfl, hb, hc, h1, h2, h3, ht⟩
  · omega
  · have e1 : cur.toList = xs ++ cur.toList.drop (n * size) := by rw [← ht, List.take_append_drop]
    exact ⟨g, cap, cur, cur.toList.drop (n * size), rfl, hb, hc, e1, hl, h1, h2, by rw [← e1, Array.length_toList, h3]⟩
theorem Blks.rowOf {w0 w : World} {L : List Blk} (h : Blks w0 w L) {g n cap size : Nat} {xs rest : List Value} {e : TypeId} (hm : (g, xs ++ rest, e) ∈ L) (hf : RowF n cap size xs rest) : w.ownsRow w0.heap.size e size (.slice (some ⟨g, 0, none⟩) n cap) n xs :=
  ⟨hf.len, Or.inr ⟨g, cap, (xs ++ rest).toArray, rfl, h.new _ hm, h.has _ hm, hf.le, hf.most, by simpa using hf.all, by simp [← hf.len]⟩⟩
theorem Blks.addr {w0 w : World} {L : List Blk} (h : Blks w0 w L) {g : Nat} {xs rest : List Value} {e : TypeId} (hm : (g, xs ++ rest, e) ∈ L) : ∀ (j : Nat) (u : Value), xs[j]? = some u → w.cell? ((⟨g, 0, none⟩ : Addr).add j) = some u := by
  intro j u hu
  rw [Addr.add_mid]
  have := cell_of_row w g (0 + j) (xs ++ rest).toArray e (0, 0) (h.has _ hm)
  rw [this]
  have hj : j < xs.length := (List.getElem?_eq_some_iff.1 hu).1
  simp only [Nat.zero_add, List.getElem?_toArray]
  rw [List.getElem?_append_left hj, hu]
theorem reps_strings {w : World} {base : Nat} {ok : Nat → Prop} {xs : List ByteArray} {inner : List Value} (h : Reps (Kd.string.M w base ok) 1 xs inner) : inner = xs.map Value.string := by
  obtain ⟨h1, h2⟩ := h
  refine List.ext_getElem (by simp [h1]) fun j hj hj' => ?_
  have hx : j < xs.length := by simpa using hj'
  have := h2 j xs[j] (List.getElem?_eq_getElem hx)
  have e : List.take 1 (List.drop (j * 1) inner) = [Value.string xs[j]] := this
  rw [Nat.mul_one, List.drop_eq_getElem_cons hj, List.take_succ_cons] at e
  injection e with e _
  simp [e]
theorem strs_block {w : World} {base : Nat} {ok : Nat → Prop} {e : TypeId} {v : Value} {xs : List ByteArray} (h : Kd.R Kd.string e w base ok v xs) (hp : 0 < xs.length) :
    ∃ g cap cells rest, v = .slice (some ⟨g, 0, none⟩) xs.length cap ∧ base ≤ g ∧ w.heap[g]? = some (.cells cells e (0, 0)) ∧ cells.toList = xs.map Value.string ++ rest := by
  obtain ⟨_, inner, ho, hr⟩ := h
  obtain ⟨g, cap, cells, rest, h1, h2, h3, h4, _⟩ := row_block ho hp
  rw [reps_strings hr] at h4
  exact ⟨g, cap, cells, rest, h1, h2, h3, h4⟩
end Go.Proofs.YtgoeiflddikihaaGreatDoor.Mem
end
section
namespace Go.Proofs.YtgoeiflddikihaaGreatDoor.Mem
open Go.RowKit Go.Proofs.YtgoeiflddikihaaGreatDoorW.PrintWords
class RowC (P : Program) (ty : TypeId) (n : outParam Nat) : Prop where out : RowT P ty n
class OneC (P : Program) (ty : TypeId) : Prop where out : OneT P ty
class ZeroC (P : Program) (ty : TypeId) (zs : outParam (Array Value)) : Prop where out : (P.info? ty).bind (fun i => i.zero.map (·.cells)) = some zs
class Plain (v : Value) : Prop where out : v.oneCell' = true
instance (b : Bool) : Plain (.bool b) := ⟨rfl⟩
instance (k : IntKind) (n : Int) : Plain (.int k n) := ⟨rfl⟩
instance (s : ByteArray) : Plain (.string s) := ⟨rfl⟩
instance (x : Option Addr) (n m : Nat) : Plain (.slice x n m) := ⟨rfl⟩
instance (t : TypeId) (v : Value) : Plain (.iface t v) := ⟨rfl⟩
instance : Plain .nilIface := ⟨rfl⟩
instance (x : Option Addr) : Plain (.pointer x) := ⟨rfl⟩
section ops
variable {P : Program} {ops : Array Oper} {rest : List Oper} {a : Act} {w0 w : World} {Q : Exit → Act → World → Prop} {L L' : List Blk}
variable {d : Option Tmp} {tt : TypeId} {pos : String} {af : Array Edge}
theorem m_load {ty : TypeId} {x : Operand} {b off n : Nat} {cs vs : List Value} {t : TypeId} (H : Blks w0 w L)
    (hx : a.eval x = .pointer (some ⟨b, off, none⟩) := by rfl) (hm : (b, cs, t) ∈ L := by repeat (first | exact List.Mem.head _ | apply List.Mem.tail))
    [ht : RowC P ty n] (hr : Rd cs off n vs := by repeat (first | exact Rd.nil | apply Rd.here | apply Rd.skip)) (h : wpList P ops Q rest (a.put d (.agg vs.toArray)) w) :
    wpList P ops Q (⟨d, .load ty x, tt, pos, af, none⟩ :: rest) a w := bk_load (o := ⟨d, .load ty x, tt, pos, af, none⟩) rfl rfl hx H hm ht.out hr h
theorem m_load1 {ty : TypeId} {x : Operand} {b off : Nat} {cs : List Value} {v : Value} {t : TypeId} (H : Blks w0 w L)
    (hx : a.eval x = .pointer (some ⟨b, off, none⟩) := by rfl) (hm : (b, cs, t) ∈ L := by repeat (first | exact List.Mem.head _ | apply List.Mem.tail))
    [ht : OneC P ty] (hr : Rd cs off 1 [v] := by repeat (first | exact Rd.nil | apply Rd.here | apply Rd.skip)) (h : wpList P ops Q rest (a.put d v) w) :
    wpList P ops Q (⟨d, .load ty x, tt, pos, af, none⟩ :: rest) a w := bk_load1 (o := ⟨d, .load ty x, tt, pos, af, none⟩) rfl rfl hx H hm ht.out hr h
theorem m_store {ty : TypeId} {x y : Operand} {b off n : Nat} {vs : Array Value} {cs cs' : List Value} {t : TypeId} (H : Blks w0 w L)
    (hx : a.eval x = .pointer (some ⟨b, off, none⟩) := by rfl) (hy : a.eval y = .agg vs := by rfl) [ht : RowC P ty n] (hn : vs.size = n := by rfl) (h1 : vs.all (·.oneCell') = true := by simp [Value.oneCell'])
    (hm : (b, cs, t) ∈ L := by repeat (first | exact List.Mem.head _ | apply List.Mem.tail)) (hw : Wr cs off vs.toList cs' := by repeat (first | exact Wr.nil | apply Wr.here | apply Wr.skip))
    (hu : Up L b cs t cs' L' := by repeat (first | exact Up.here | apply Up.skip)) (h : ∀ w', Aside0 (Blks w0 w' L') → wpList P ops Q rest a w') :
    wpList P ops Q (⟨none, .store ty x y, tt, pos, af, none⟩ :: rest) a w :=
  bk_store (o := ⟨none, .store ty x y, tt, pos, af, none⟩) rfl rfl rfl hx hy H ht.out hn h1 hm hw hu fun w' h' => h w' ⟨h'⟩
theorem m_store1 {ty : TypeId} {x y : Operand} {b off : Nat} {v : Value} {cs cs' : List Value} {t : TypeId} (H : Blks w0 w L)
    (hx : a.eval x = .pointer (some ⟨b, off, none⟩) := by rfl) (hy : a.eval y = v) [ht : OneC P ty] [h1 : Plain v]
    (hm : (b, cs, t) ∈ L := by repeat (first | exact List.Mem.head _ | apply List.Mem.tail)) (hw : Wr cs off [v] cs' := by repeat (first | exact Wr.nil | apply Wr.here | apply Wr.skip))
    (hu : Up L b cs t cs' L' := by repeat (first | exact Up.here | apply Up.skip)) (h : ∀ w', Aside0 (Blks w0 w' L') → wpList P ops Q rest a w') :
    wpList P ops Q (⟨none, .store ty x y, tt, pos, af, none⟩ :: rest) a w :=
  bk_store1 (o := ⟨none, .store ty x y, tt, pos, af, none⟩) rfl rfl rfl hx hy H ht.out h1.out hm hw hu fun w' h' => h w' ⟨h'⟩
theorem m_alloc {ty : TypeId} {zs : Array Value} (H : Blks w0 w L) [hz : ZeroC P ty zs]
    (h : ∀ (b : Nat) (w' : World), Aside0 (Blks w0 w' ((b, zs.toList, ty) :: L)) → wpList P ops Q rest (a.put d (.pointer (some ⟨b, 0, none⟩))) w') :
    wpList P ops Q (⟨d, .alloc ty, tt, pos, af, none⟩ :: rest) a w := bk_alloc (o := ⟨d, .alloc ty, tt, pos, af, none⟩) rfl rfl H hz.out fun b w' h' => h b w' ⟨h'⟩
theorem m_box {ty : TypeId} {x : Operand} {cs : Array Value} (H : Blks w0 w L) (hx : a.eval x = .agg cs := by rfl)
    (h : ∀ (b : Nat) (w' : World), Aside0 (Blks w0 w' ((b, cs.toList, ty) :: L)) → wpList P ops Q rest (a.put d (.pointer (some ⟨b, 0, none⟩))) w') :
    wpList P ops Q (⟨d, .box ty x, tt, pos, af, none⟩ :: rest) a w := bk_box (o := ⟨d, .box ty x, tt, pos, af, none⟩) rfl rfl H hx fun b w' h' => h b w' ⟨h'⟩
theorem m_slice {t e : TypeId} {len : Nat} {parts : Array (Nat × Operand)} {cells : Array Value} (hu : P.underlying t = some (.slice e))
    (hf : P.builtSlice e len (parts.map fun (i, x) => (i, a.eval x)).toList = some cells) (H : Blks w0 w L)
    (h : ∀ (b : Nat) (w' : World), Aside0 (Blks w0 w' ((b, cells.toList, e) :: L)) → wpList P ops Q rest (a.put d (.slice (some ⟨b, 0, none⟩) len len)) w') :
    wpList P ops Q (⟨d, .buildSlice t len parts, tt, pos, af, none⟩ :: rest) a w := bk_slice (o := ⟨d, .buildSlice t len parts, tt, pos, af, none⟩) rfl rfl H hu hf fun b w' h' => h b w' ⟨h'⟩
theorem m_build {t : TypeId} {parts : Array (Nat × Operand)} {cells : Array Value} (hf : P.built t (parts.map fun (i, x) => (i, a.eval x)).toList = some cells)
    (h : wpList P ops Q rest (a.put d (.agg cells)) w) : wpList P ops Q (⟨d, .build t parts, tt, pos, af, none⟩ :: rest) a w := bk_build (o := ⟨d, .build t parts, tt, pos, af, none⟩) rfl rfl hf h
end ops
def StrsAt (e : TypeId) (w : World) (base : Nat) (v : Value) (pp : List ByteArray) : Prop :=
  (v = .slice none 0 0 ∧ pp = []) ∨ ∃ g cap cells rest, v = .slice (some ⟨g, 0, none⟩) pp.length cap ∧ base ≤ g ∧ w.heap[g]? = some (.cells cells e (0, 0)) ∧ cells.toList = pp.map Value.string ++ rest
theorem StrsAt.below {e : TypeId} {w w' : World} {base : Nat} {v : Value} {pp : List ByteArray} (h : StrsAt e w base v pp) (hb : Below w.heap.size w w') : StrsAt e w' base v pp := by
  rcases h with h | ⟨g, cap, cells, rest, h1, h2, h3, h4⟩
  · exact Or.inl h
  · exact Or.inr ⟨g, cap, cells, rest, h1, h2, (hb.block g (hlt h3)).trans h3, h4⟩
theorem StrsAt.mono {e : TypeId} {w : World} {base base' : Nat} {v : Value} {pp : List ByteArray} (h : StrsAt e w base v pp) (hb : base' ≤ base) : StrsAt e w base' v pp := by
  rcases h with h | ⟨g, cap, cells, rest, h1, h2, h3, h4⟩
  · exact Or.inl h
  · exact Or.inr ⟨g, cap, cells, rest, h1, Nat.le_trans hb h2, h3, h4⟩
theorem StrsAt.val {e : TypeId} {w : World} {base : Nat} {v : Value} {pp : List ByteArray} (h : StrsAt e w base v pp) : ∃ A c, v = .slice A pp.length c := by
  rcases h with ⟨h, rfl⟩ | ⟨g, cap, _, _, h, _⟩
  · exact ⟨_, _, h⟩
  · exact ⟨_, _, h⟩
theorem StrsAt.get {e : TypeId} {w : World} {base : Nat} {v : Value} {pp : List ByteArray} (h : StrsAt e w base v pp) (hp : pp ≠ []) :
    ∃ g cap, v = .slice (some ⟨g, 0, none⟩) pp.length cap ∧ base ≤ g ∧ g < w.heap.size ∧ ∀ j (hj : j < pp.length), w.cell? ⟨g, j, none⟩ = some (.string pp[j]) := by
  rcases h with ⟨_, rfl⟩ | ⟨g, cap, cells, rest, h1, h2, h3, h4⟩
  · exact absurd rfl hp
  · refine ⟨g, cap, h1, h2, hlt h3, fun j hj => ?_⟩
    have := cell_of_row w g j cells e (0, 0) h3
    rw [this, ← Array.getElem?_toList, h4, List.getElem?_append_left (by simpa using hj), List.getElem?_map, List.getElem?_eq_getElem hj]
    rfl
theorem Blks.strs {w0 w : World} {L : List Blk} (h : Blks w0 w L) {g cap : Nat} {pp : List ByteArray} {rest : List Value} {e : TypeId} (hm : (g, pp.map Value.string ++ rest, e) ∈ L) : StrsAt e w w0.heap.size (.slice (some ⟨g, 0, none⟩) pp.length cap) pp :=
  Or.inr ⟨g, cap, _, rest, rfl, h.new _ hm, h.has _ hm, rfl⟩
theorem Blks.perm {w0 w : World} {L L' : List Blk} (h : Blks w0 w L) (hp : L.Perm L') : Blks w0 w L' :=
  ⟨h.bel, fun x hx => h.has x (hp.symm.subset hx), fun x hx => h.new x (hp.symm.subset hx), (hp.map _).nodup_iff.1 h.nd⟩
theorem Blks.turn3 {w0 w : World} {x y z : Blk} {L : List Blk} (h : Blks w0 w (x :: y :: z :: L)) : Blks w0 w (y :: z :: x :: L) :=
  h.perm ((List.Perm.swap y x (z :: L)).trans ((List.Perm.swap z x L).cons y))
end Go.Proofs.YtgoeiflddikihaaGreatDoor.Mem
end
section
namespace Go.Proofs.YtgoeiflddikihaaGreatDoor.Mem
open Go.RowKit Go.Proofs.YtgoeiflddikihaaGreatDoorW.PrintWords
section
variable {P : Program} {ops : Array Oper} {a : Act} {w0 w : World} {K : Act → World → Prop} {Q : Exit → Act → World → Prop} {L L' : List Blk} {E : Prop}
variable {d : Option Tmp} {tt : TypeId} {pos : String} {af : Array Edge}
theorem d_alloc {ty : TypeId} {zs : Array Value} (H : Blks w0 w L) [hz : ZeroC P ty zs]
    (h : ∀ (b : Nat) (w' : World), Aside0 (Blks w0 w' ((b, zs.toList, ty) :: L)) → K (a.put d (.pointer (some ⟨b, 0, none⟩))) w') :
    if Region.wanted ⟨d, .alloc ty, tt, pos, af, none⟩ (yielded ops a.tmps) = true then Oper.wp P ⟨d, .alloc ty, tt, pos, af, none⟩ a w K Q else E := by
  rw [if_pos (by simp [Region.wanted])]
  have hz := hz.out
  unfold Oper.wp execOp
  cases hq : P.info? ty with
  | none => simp [hq] at hz
  | some i =>
    simp only [hq, Option.bind_some] at hz
    cases hv : i.zero with
    | none => simp [hv] at hz
    | some z =>
      simp only [hv, Option.map_some, Option.some.injEq] at hz
      have hrun : (Instr.alloc ty true (.tuple #[])).run P w = .ok (.pointer (some ⟨w.heap.size, 0, none⟩)) (w.alloc (.cells zs ty)) := by
        simp [Instr.alloc, zeroValue, typeInfo, hq, hv, newVar, newRow, hz]
      simp only [Sem.run_bind, hrun, Result.andThen_ok, Sem.run_pure]
      exact h _ _ ⟨H.alloc zs ty⟩
theorem d_store {ty : TypeId} {x y : Operand} {b off n : Nat} {vs : Array Value} {cs cs' : List Value} {t : TypeId} (H : Blks w0 w L)
    (hx : a.eval x = .pointer (some ⟨b, off, none⟩)) (hy : a.eval y = .agg vs) [ht : RowC P ty n] (hn : vs.size = n) (h1 : vs.all (·.oneCell') = true)
    (_hm : (b, cs, t) ∈ L) (hw : Wr cs off vs.toList cs') (hu : Up L b cs t cs' L') (h : ∀ w', Aside0 (Blks w0 w' L') → K (a.put none undef) w') :
    if Region.wanted ⟨none, .store ty x y, tt, pos, af, none⟩ (yielded ops a.tmps) = true then Oper.wp P ⟨none, .store ty x y, tt, pos, af, none⟩ a w K Q else E := by
  rw [if_pos (by simp [Region.wanted])]
  have hle := hw.len.2
  rw [Array.length_toList] at hle
  exact wp_store_mid ty x y rfl b off vs hx hy (H.there hu.mem hle) (by rw [ht.out.size, hn]) h1 (h _ ⟨H.set hw hu⟩)
theorem d_load {ty : TypeId} {x : Operand} {b off n : Nat} {cs vs : List Value} {t : TypeId} {S : World → Prop} (hw : Region.wanted ⟨d, .load ty x, tt, pos, af, none⟩ (yielded ops a.tmps) = true)
    (hx : a.eval x = .pointer (some ⟨b, off, none⟩)) (hS : ∀ w, S w → Blks w0 w L) (hm : (b, cs, t) ∈ L) [ht : RowC P ty n] (hr : Rd cs off n vs) :
    YieldsIf P ops S ⟨d, .load ty x, tt, pos, af, none⟩ (.agg vs.toArray) a := by
  obtain ⟨d', hu, hd⟩ := ht.out.row
  exact yieldsIf_load_mid hw ty x rfl b off hx vs d' (fun w h => (hS w h).range hm hr) hu hd (by rw [ht.out.size, hr.len])
end
theorem Blks.less {w0 w : World} {L L' : List Blk} (h : Blks w0 w L) (hs : L'.Sublist L) : Blks w0 w L' :=
  ⟨h.bel, fun x hx => h.has x (hs.subset hx), fun x hx => h.new x (hs.subset hx), (hs.map _).nodup h.nd⟩
end Go.Proofs.YtgoeiflddikihaaGreatDoor.Mem
end
section
namespace Go.Proofs.YtgoeiflddikihaaGreatDoor.Mem
set_option linter.unusedSimpArgs false
set_option linter.unusedVariables false
open Go.RowKit Go.Proofs.YtgoeiflddikihaaGreatDoorW.PrintWords Go.Proofs.YtgoeiflddikihaaGreatDoor.PFnVersion
def c3 (x : S30) : List Value := [.int .i64 x.f0, .string x.f1, .string x.f2]
def flat3 (l : List S30) : List Value := l.flatMap c3
theorem flat3_len (l : List S30) : (flat3 l).length = l.length * 3 := by
  induction l with
  | nil => rfl
  | cons x l ih => show (c3 x ++ flat3 l).length = _; rw [List.length_append, ih, List.length_cons]; show 3 + _ = _; omega
theorem flat3_app (a b : List S30) : flat3 (a ++ b) = flat3 a ++ flat3 b := by unfold flat3; rw [List.flatMap_append]
theorem flat3_one : ∀ l : List S30, ∀ u ∈ flat3 l, u.oneCell' = true := by
  intro l u hu
  unfold flat3 at hu
  obtain ⟨x, _, hx⟩ := List.mem_flatMap.1 hu
  simp [c3] at hx
  rcases hx with rfl | rfl | rfl <;> rfl
theorem flat3_drop (l : List S30) (k : Nat) : (flat3 l).drop (k * 3) = flat3 (l.drop k) := by
  by_cases h : k ≤ l.length
  · have e := List.take_append_drop k l
    have h2 : flat3 l = flat3 (l.take k) ++ flat3 (l.drop k) := by rw [← flat3_app, e]
    rw [h2, List.drop_append_of_le_length (by rw [flat3_len, List.length_take]; omega), List.drop_eq_nil_of_le (by rw [flat3_len, List.length_take]; omega)]
    rfl
  · rw [List.drop_eq_nil_of_le (by rw [flat3_len]; omega), List.drop_eq_nil_of_le (by omega)]; rfl
theorem flat3_take (l : List S30) (k : Nat) (h : k ≤ l.length) : (flat3 l).take (k * 3) = flat3 (l.take k) := by
  have e := List.take_append_drop k l
  have h2 : flat3 l = flat3 (l.take k) ++ flat3 (l.drop k) := by rw [← flat3_app, e]
  rw [h2, List.take_append_of_le_length (by rw [flat3_len, List.length_take]; omega), List.take_of_length_le (by rw [flat3_len, List.length_take]; omega)]
theorem flat3_at (l : List S30) (j : Nat) (h : j < l.length) : (flat3 l)[j * 3]? = some (.int .i64 l[j].f0) ∧ (flat3 l)[j * 3 + 1]? = some (.string l[j].f1) ∧ (flat3 l)[j * 3 + 2]? = some (.string l[j].f2) := by
  have h2 := flat3_drop l j
  rw [List.drop_eq_getElem_cons h] at h2
  have h3 : ∀ i, (flat3 l)[j * 3 + i]? = (c3 l[j] ++ flat3 (l.drop (j + 1)))[i]? := fun i => by
    rw [← List.getElem?_drop, h2]; rfl
  exact ⟨h3 0, h3 1, h3 2⟩
def VOk (out : List S30) (v : Value) (X : List Blk) : Prop :=
  (v = .slice none 0 0 ∧ out = [] ∧ X = []) ∨ ∃ g cap rest, v = .slice (some ⟨g, 0, none⟩) out.length cap ∧ out.length ≤ cap ∧ cap ≤ maxLen ∧ X = [(g, flat3 out ++ rest, 30)]
theorem VOk.val {out : List S30} {v : Value} {X : List Blk} (h : VOk out v X) : ∃ A cap, v = .slice A out.length cap ∧ out.length ≤ cap ∧ cap ≤ maxLen := by
  rcases h with ⟨rfl, rfl, _⟩ | ⟨g, cap, rest, rfl, h, h2, _⟩
  · exact ⟨_, _, rfl, Nat.le_refl _, Nat.zero_le _⟩
  · exact ⟨_, _, rfl, h, h2⟩
theorem VOk.elem {out : List S30} {v : Value} {X L : List Blk} {w0 w : World} (h : VOk out v X) (H : Blks w0 w L) (hs : ∀ x ∈ X, x ∈ L) (hne : out ≠ []) : ∃ g cap, v = .slice (some ⟨g, 0, none⟩) out.length cap ∧
    ∀ j (hj : j < out.length), w.cell? ⟨g, j * 3, none⟩ = some (.int .i64 out[j].f0) ∧ w.cell? ⟨g, j * 3 + 1, none⟩ = some (.string out[j].f1) ∧ w.cell? ⟨g, j * 3 + 2, none⟩ = some (.string out[j].f2) := by
  rcases h with ⟨_, rfl, _⟩ | ⟨g, cap, rest, rfl, h, _, rfl⟩
  · exact absurd rfl hne
  · refine ⟨g, cap, rfl, fun j hj => ?_⟩
    have hb := H.has _ (hs _ (List.mem_singleton.2 rfl))
    have hl := flat3_len out
    have key : ∀ i u, (flat3 out)[i]? = some u → w.cell? ⟨g, i, none⟩ = some u := by
      intro i u hu
      rw [cell_of_row w g i _ _ (0, 0) hb, ← Array.getElem?_toList]
      have : i < (flat3 out).length := (List.getElem?_eq_some_iff.1 hu).1
      rw [List.getElem?_append_left this]; exact hu
    obtain ⟨h0, h1, h2⟩ := flat3_at out j hj
    exact ⟨key _ _ h0, key _ _ h1, key _ _ h2⟩
def tailV (A : Option Addr) (n cap k : Nat) : Value := .slice (if cap = k then A else A.map (·.add (k * 3))) (n - k) (cap - k)
theorem slice_tail (A : Option Addr) (n cap k : Nat) (hk : k ≤ n) (hc : n ≤ cap) (hm : cap ≤ maxLen) (W : World) : (Instr.slice 67 (.slice A n cap) (some (.int .i64 (k : Int))) none none).run Tryz.prog W = .ok (tailV A n cap k) W := by
  unfold maxLen at hm
  go_simp
  unfold tailV
  rfl
theorem slice_head (A : Option Addr) (n cap k : Nat) (hk : k ≤ n) (hc : n ≤ cap) (hm : cap ≤ maxLen) (W : World) : (Instr.slice 67 (.slice A n cap) none (some (.int .i64 (k : Int))) (some (.int .i64 (k : Int)))).run Tryz.prog W = .ok (.slice A k k) W := by
  unfold maxLen at hm
  have h1 : k ≤ cap := by omega
  clear hk hc
  go_simp
end Go.Proofs.YtgoeiflddikihaaGreatDoor.Mem
end
section
namespace Go.Proofs.YtgoeiflddikihaaGreatDoor.Mem
set_option linter.unusedSimpArgs false
set_option linter.unusedVariables false
open Go.RowKit Go.Proofs.YtgoeiflddikihaaGreatDoorW.PrintWords Go.Proofs.YtgoeiflddikihaaGreatDoor.PFnVersion
theorem Blks.reads {w0 w : World} {L : List Blk} (H : Blks w0 w L) {g : Nat} {cs rest : List Value} {t : TypeId} (hm : (g, cs ++ rest, t) ∈ L) : ∀ j u, cs[j]? = some u → w.cell? ⟨g, j, none⟩ = some u := by
  intro i u hu
  have hb := H.has _ hm
  rw [cell_of_row w g i _ _ (0, 0) hb, ← Array.getElem?_toList]
  have : i < cs.length := (List.getElem?_eq_some_iff.1 hu).1
  rw [List.getElem?_append_left this]; exact hu
theorem add0 (g o j : Nat) : (⟨g, o, none⟩ : Addr).add j = ⟨g, o + j, none⟩ := Addr.add_mid g o j
theorem VOk.src {out : List S30} {X L : List Blk} {w0 w : World} {A : Option Addr} {cap : Nat} (h : VOk out (.slice A out.length cap) X) (H : Blks w0 w L) (hs : ∀ x ∈ X, x ∈ L) (k : Nat) (hk : k ≤ out.length) :
    Src Tryz.prog 3 67 (tailV A out.length cap k) (out.length - k) (flat3 (out.drop k)) w := by
  have hu : Tryz.prog.underlying 67 = some (.slice 30) := Tryz.underlying67
  have hl : (flat3 (out.drop k)).length = (out.length - k) * 3 := by rw [flat3_len, List.length_drop]
  rcases h with ⟨h1, rfl, rfl⟩ | ⟨g, cp, rest, h1, h2, h3, rfl⟩
  · injection h1 with a1 a2 a3
    subst a1 a3
    obtain rfl : k = 0 := by simpa using hk
    exact Src.ofNil w hu 0
  · injection h1 with a1 a2 a3
    subst a1 a3
    have hm := hs _ (List.mem_singleton.2 rfl)
    unfold tailV
    by_cases hc : cap = k
    · rw [if_pos hc]
      have : out.length - k = 0 := by omega
      have hn : out.drop k = [] := List.drop_eq_nil_of_le (by omega)
      rw [hn, this]
      exact Src.ofSlice w hu _ 0 _ [] (by simp) (fun j u h => by simp at h) (fun u h => by cases h)
    · rw [if_neg hc]
      refine Src.ofSlice w hu _ _ _ _ hl (fun j u hj => ?_) (flat3_one _)
      show w.cell? (((⟨g, 0, none⟩ : Addr).add (k * 3)).add j) = some u
      rw [add0, add0]
      rw [← flat3_drop, List.getElem?_drop] at hj
      have := H.reads hm (k * 3 + j) u hj
      simpa using this
theorem run_app_grow (w : World) (ty : TypeId) (base : Option Addr) (n cp : Nat) (olds : List Value) (x : Value) (m : Nat) (news : List Value) (hs : Src Tryz.prog 3 67 x m news w)
    (hold : (Builtin.firstCells 3 n (.slice base n cp)).run Tryz.prog w.drew = .ok olds.toArray w.drew) (hg : cp < n + m) (hb : n + m ≤ 1000000) :
    ∃ g cap w', (Builtin.append_ #[67, 67] ty #[.slice base n cp, x]).run Tryz.prog w = .ok (.slice (some ⟨g, 0, none⟩) (n + m) cap) w' ∧ n + m ≤ cap ∧ cap ≤ maxLen ∧ w.heap.size ≤ g ∧ Below w.heap.size w w' ∧
      ∃ cells rest, w'.heap[g]? = some (.cells cells 30 (0, 0)) ∧ cells.toList = (olds ++ news) ++ rest := by
  obtain ⟨i, hi, hz0, hz1, hz2⟩ := info_parts info30
  have hu : Tryz.prog.underlying 67 = some (.slice 30) := Tryz.underlying67
  have hfit : Builtin.nextslicecap (n + m) cp * i.bytes ≤ 281474976710656 := growslice_fits hg (by rw [hz2]; omega)
  have hs' : Src Tryz.prog i.size 67 x m news w := by rw [hz1]; exact hs
  have hr := run_append_grow_src w 67 67 ty 30 i _ hu hi hz0 base n cp olds (by rw [hz1]; exact hold) x m news hs' hg (by omega) hfit
  refine ⟨_, _, _, hr, grownCap_ge _ _ _ _, grownCap_le_maxLen _ _ _ _ (by unfold maxLen; omega), Nat.le_refl _, ?bel, _, ?rest, heap_alloc_new w.drew _, ?eq⟩
  case eq => exact Array.toList_append
  · exact ⟨rfl, rfl, rfl, by simp, fun k hk => heap_alloc_old w.drew _ hk⟩
section
variable {ops : Array Oper} {a : Act} {w0 w : World} {K : Act → World → Prop} {Q : Exit → Act → World → Prop} {L L' : List Blk} {E : Prop}
variable {d : Option Tmp} {tt : TypeId} {pos : String} {af : Array Edge}
theorem d_append {s x : Operand} {sv xv v' : Value} {w' : World} (hs : a.eval s = sv) (hx : a.eval x = xv) (hrun : (Builtin.append_ #[67, 67] tt #[sv, xv]).run Tryz.prog w = .ok v' w') (h : K (a.put d v') w') :
    if Region.wanted ⟨d, .call { callee := .builtin .append, args := #[s, x], argTypes := #[67, 67] }, tt, pos, af, none⟩ (yielded ops a.tmps) = true then
      Oper.wp Tryz.prog ⟨d, .call { callee := .builtin .append, args := #[s, x], argTypes := #[67, 67] }, tt, pos, af, none⟩ a w K Q else E := by
  rw [if_pos (by simp [Region.wanted])]
  unfold Oper.wp
  simp [execOp, resolve, invoke, builtin, hs, hx, hrun, Result.andThen]
  exact h
theorem d_app1 {s y : Operand} {b1 k : Nat} {x : S30} {out : List S30} {X : List Blk} {A : Option Addr} {cap : Nat} (H : Blks w0 w L) (hb : (b1, c3 x, 30) ∈ L) (ho : VOk out (.slice A out.length cap) X) (hX : ∀ z ∈ X, z ∈ L) (hk : k ≤ out.length) (hl : out.length ≤ 1000)
    (hs : a.eval s = .slice (some ⟨b1, 0, none⟩) 1 1) (hy : a.eval y = tailV A out.length cap k)
    (h : ∀ g cap' rest w' L2, Aside0 (Blks w0 w' L2) → (∀ z ∈ L, z ∈ L2) → (g, flat3 (x :: out.drop k) ++ rest, 30) ∈ L2 → K (a.put d (.slice (some ⟨g, 0, none⟩) (1 + (out.length - k)) cap')) w') :
    if Region.wanted ⟨d, .call { callee := .builtin .append, args := #[s, y], argTypes := #[67, 67] }, tt, pos, af, none⟩ (yielded ops a.tmps) = true then
      Oper.wp Tryz.prog ⟨d, .call { callee := .builtin .append, args := #[s, y], argTypes := #[67, 67] }, tt, pos, af, none⟩ a w K Q else E := by
  have src := ho.src H hX k hk
  have hx3 : flat3 (x :: out.drop k) = c3 x ++ flat3 (out.drop k) := rfl
  by_cases h0 : out.length - k = 0
  · have hn : out.drop k = [] := List.drop_eq_nil_of_le (by omega)
    rw [h0, hn] at src
    obtain ⟨i, hi, hz0, hz1, hz2⟩ := info_parts info30
    have hu : Tryz.prog.underlying 67 = some (.slice 30) := Tryz.underlying67
    have hr := run_append_room_src (P := Tryz.prog) w 67 67 tt 30 i hu hi b1 0 1 1 _ 0 (flat3 []) (by rw [hz1]; exact src) (by omega) (fun j hj => by simp [flat3] at hj) (fun j hj => by simp [flat3] at hj)
    refine d_append hs hy hr ?_
    rw [h0, hn] at h
    exact h b1 1 [] _ L ⟨H⟩ (fun z hz => hz) (by rw [List.append_nil]; exact hb)
  · have hb' : (b1, c3 x ++ [], 30) ∈ L := by rw [List.append_nil]; exact hb
    obtain ⟨g, cap', w', hr, h1, h2, h3, h4, cells, rest, h5, h6⟩ := run_app_grow w tt (some ⟨b1, 0, none⟩) 1 1 (c3 x) _ _ _ src (run_firstCells_some w.drew 3 1 ⟨b1, 0, none⟩ 1 1 (c3 x) rfl (fun j u hj => by
      rw [add0, Nat.zero_add]; exact (H.drew.reads hb' j u hj))) (by omega) (by omega)
    refine d_append hs hy hr ?_
    exact h g cap' rest w' _ ⟨H.add h4 h3 h5 h6⟩ (fun z hz => List.mem_cons_of_mem _ hz) (List.mem_cons_self ..)
theorem d_app2 {s y : Operand} {g1 k m cap1 : Nat} {ys out : List S30} {X : List Blk} {A : Option Addr} {cap : Nat} {rest1 : List Value} (H : Blks w0 w L) (hb : (g1, flat3 ys ++ rest1, 30) ∈ L) (ho : VOk out (.slice A out.length cap) X) (hX : ∀ z ∈ X, z ∈ L) (hk : k ≤ out.length)
    (hm : m = ys.length) (hp : 0 < m) (hl : out.length ≤ 1000) (hl2 : m ≤ 1002)
    (hs : a.eval s = .slice A k k) (hy : a.eval y = .slice (some ⟨g1, 0, none⟩) m cap1)
    (h : ∀ v' w' L2 X', Aside0 (Blks w0 w' L2) → (∀ z ∈ L, z ∈ L2) → (∀ z ∈ X', z ∈ L2) → VOk (out.take k ++ ys) v' X' → K (a.put d v') w') :
    if Region.wanted ⟨d, .call { callee := .builtin .append, args := #[s, y], argTypes := #[67, 67] }, tt, pos, af, none⟩ (yielded ops a.tmps) = true then
      Oper.wp Tryz.prog ⟨d, .call { callee := .builtin .append, args := #[s, y], argTypes := #[67, 67] }, tt, pos, af, none⟩ a w K Q else E := by
  have hu : Tryz.prog.underlying 67 = some (.slice 30) := Tryz.underlying67
  have src : Src Tryz.prog 3 67 (.slice (some ⟨g1, 0, none⟩) m cap1) m (flat3 ys) w := Src.ofSlice w hu _ _ _ _ (by rw [flat3_len, hm]) (fun j u hj => by rw [add0, Nat.zero_add]; exact H.reads hb j u hj) (flat3_one _)
  have hold : (Builtin.firstCells 3 k (.slice A k k)).run Tryz.prog w.drew = .ok (flat3 (out.take k)).toArray w.drew := by
    rcases ho with ⟨h1, rfl, rfl⟩ | ⟨g, cp, rest, h1, h2, h3, rfl⟩
    · obtain rfl := (Value.slice.inj h1).1
      obtain rfl : k = 0 := by simpa using hk
      exact run_firstCells_none w.drew 3 0 0 0
    · obtain rfl := (Value.slice.inj h1).1
      refine run_firstCells_some w.drew 3 k _ k k _ (by rw [flat3_len, List.length_take, Nat.min_eq_left hk]) (fun j u hj => ?_)
      rw [← flat3_take out k hk, List.getElem?_take] at hj
      split at hj
      · rw [add0, Nat.zero_add]; exact H.drew.reads (hX _ (List.mem_singleton.2 rfl)) j u hj
      · cases hj
  obtain ⟨g, cap', w', hr, h1, h2, h3, h4, cells, rest, h5, h6⟩ := run_app_grow w tt A k k (flat3 (out.take k)) _ m (flat3 ys) src hold (by omega) (by omega)
  refine d_append hs hy hr ?_
  have hlen : (out.take k ++ ys).length = k + m := by rw [List.length_append, List.length_take, hm]; omega
  refine h _ w' _ [(g, flat3 (out.take k ++ ys) ++ rest, 30)] ⟨H.add h4 h3 h5 (by rw [h6, ← flat3_app])⟩ (fun z hz => List.mem_cons_of_mem _ hz) (fun z hz => by rw [List.mem_singleton.1 hz]; exact List.mem_cons_self ..) (Or.inr ⟨g, cap', rest, by rw [hlen], by rw [hlen]; exact h1, h2, rfl⟩)
end
theorem Blks.sub {w0 w : World} {L L2 : List Blk} (h : Blks w0 w L2) (hs : ∀ z ∈ L, z ∈ L2) (nd : (L.map (·.1)).Nodup) : Blks w0 w L := ⟨h.bel, fun x hx => h.has x (hs x hx), fun x hx => h.new x (hs x hx), nd⟩
theorem VOk.nodup {out : List S30} {v : Value} {X : List Blk} (h : VOk out v X) : (X.map (·.1)).Nodup := by
  rcases h with ⟨_, _, rfl⟩ | ⟨g, cap, rest, _, _, _, rfl⟩ <;> simp
end Go.Proofs.YtgoeiflddikihaaGreatDoor.Mem
end
