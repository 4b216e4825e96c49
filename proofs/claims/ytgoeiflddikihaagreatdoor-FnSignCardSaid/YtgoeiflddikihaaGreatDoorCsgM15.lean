/- Merged by program out of: VSemC, Pd, PHas, RgM. -/
import Derived.Test.YtgoeiflddikihaaGreatDoorCsgM14
import Derived.Test.YtgoeiflddikihaaGreatDoorCsgM12
import Derived.Lib.QuietBelow
import Derived.Test.YtgoeiflddikihaaGreatDoorCsgM3
import Derived.Test.YtgoeiflddikihaaGreatDoorCsgM13
import Derived.Deep.Cut
import Derived.Deep.CutRange
section
namespace Go.Proofs.YtgoeiflddikihaaGreatDoor.Ver
open Go.RowKit Go.Proofs.YtgoeiflddikihaaGreatDoorW.PrintWords Go.Proofs.YtgoeiflddikihaaGreatDoor.Ord
set_option maxHeartbeats 2000000 in
theorem equal_any (v u : SV) (hv : v.pre.size ≤ 140737488351232) (hu : u.pre.size ≤ 140737488351232) (w : World) :
    Calls Tryz.prog 234 #[.agg v.cells, .agg u.cells] w fun e w' => e = .returned (.bool (cmpV v u == 0)) ∧ Below w.heap.size w w' := by
  have HC := Lib.hid (fun W => cmp_any v u hv hu W)
  have HB := Aside0.mk (Below.refl w.heap.size w)
  generalize cmpV v u = c at *
  obtain ⟨va, vb, vc, vp, vm, vo⟩ := v
  obtain ⟨ua, ub, uc, up, um, uo⟩ := u
  dsimp only [SV.cells] at HC hv hu ⊢
  go_enter Tryz.func234, Tryz.ntmps234
  go_wp2_with (first
    | (go_at_call 209; ((with_reducible refine (HC.out _).mono ?_); rintro e w1 ⟨rfl, hb⟩; have HB5 := Aside0.mk (below_trans (by repeat (first | exact HB.out | apply below_alloc | apply pw_below_drewN)) hb); clear hb)))
  go_ret
  exact ⟨rfl, by repeat (first | exact HB5.out | apply below_alloc | apply pw_below_drewN)⟩
set_option maxHeartbeats 2000000 in
theorem less_any (v u : SV) (hv : v.pre.size ≤ 140737488351232) (hu : u.pre.size ≤ 140737488351232) (w : World) :
    Calls Tryz.prog 207 #[.agg v.cells, .agg u.cells] w fun e w' => e = .returned (.bool (decide (cmpV v u < 0))) ∧ Below w.heap.size w w' := by
  have HC := Lib.hid (fun W => cmp_any v u hv hu W)
  have HB := Aside0.mk (Below.refl w.heap.size w)
  generalize cmpV v u = c at *
  obtain ⟨va, vb, vc, vp, vm, vo⟩ := v
  obtain ⟨ua, ub, uc, up, um, uo⟩ := u
  dsimp only [SV.cells] at HC hv hu ⊢
  go_enter Tryz.func207, Tryz.ntmps207
  go_wp2_with (first
    | (go_at_call 209; ((with_reducible refine (HC.out _).mono ?_); rintro e w1 ⟨rfl, hb⟩; have HB5 := Aside0.mk (below_trans (by repeat (first | exact HB.out | apply below_alloc | apply pw_below_drewN)) hb); clear hb)))
  go_ret
  exact ⟨rfl, by repeat (first | exact HB5.out | apply below_alloc | apply pw_below_drewN)⟩
set_option maxHeartbeats 2000000 in
theorem more_any (v u : SV) (hv : v.pre.size ≤ 140737488351232) (hu : u.pre.size ≤ 140737488351232) (w : World) :
    Calls Tryz.prog 208 #[.agg v.cells, .agg u.cells] w fun e w' => e = .returned (.bool (decide (cmpV v u > 0))) ∧ Below w.heap.size w w' := by
  have HC := Lib.hid (fun W => cmp_any v u hv hu W)
  have HB := Aside0.mk (Below.refl w.heap.size w)
  generalize cmpV v u = c at *
  obtain ⟨va, vb, vc, vp, vm, vo⟩ := v
  obtain ⟨ua, ub, uc, up, um, uo⟩ := u
  dsimp only [SV.cells] at HC hv hu ⊢
  go_enter Tryz.func208, Tryz.ntmps208
  go_wp2_with (first
    | (go_at_call 209; ((with_reducible refine (HC.out _).mono ?_); rintro e w1 ⟨rfl, hb⟩; have HB5 := Aside0.mk (below_trans (by repeat (first | exact HB.out | apply below_alloc | apply pw_below_drewN)) hb); clear hb)))
  go_ret
  exact ⟨rfl, by repeat (first | exact HB5.out | apply below_alloc | apply pw_below_drewN)⟩
theorem prerel_any (v : SV) (w : World) :
    Calls Tryz.prog 206 #[.agg v.cells] w fun e w' => e = .returned (.string v.pre) ∧ Below w.heap.size w w' := by
  have HB := Aside0.mk (Below.refl w.heap.size w)
  obtain ⟨va, vb, vc, vp, vm, vo⟩ := v
  dsimp only [SV.cells]
  go_enter Tryz.func206, Tryz.ntmps206
  go_wp2_with fail
  go_ret
  exact ⟨rfl, by repeat (first | exact HB.out | apply below_alloc | apply pw_below_drewN)⟩
end Go.Proofs.YtgoeiflddikihaaGreatDoor.Ver
end
section
namespace Go.Proofs.YtgoeiflddikihaaGreatDoor.Ver
set_option linter.unusedSimpArgs false
set_option linter.unusedVariables false
open Go.RowKit Go.Proofs.YtgoeiflddikihaaGreatDoorW.PrintWords Go.Proofs.YtgoeiflddikihaaGreatDoor.Mem Go.Proofs.YtgoeiflddikihaaGreatDoor.Ord
structure PD where
  lo : SV
  hi : SV
  hl : Bool
  hh : Bool
  wl : Bool
  wh : Bool
  but : List SV
def zVd : SV := ⟨0, 0, 0, ⟨#[]⟩, ⟨#[]⟩, ⟨#[]⟩⟩
def zPD : PD := ⟨zVd, zVd, false, false, false, false, []⟩
def lowOk (p : PD) (v : SV) : Bool := !(p.hl && (decide (cmpV v p.lo < 0) || (cmpV v p.lo == 0 && !p.wl)))
def highOk (p : PD) (v : SV) : Bool := !(p.hh && (decide (0 < cmpV v p.hi) || (cmpV v p.hi == 0 && !p.wh)))
def butOk (l : List SV) (v : SV) : Bool := l.all (fun x => !(cmpV x v == 0))
def hasD (p : PD) (v : SV) : Bool := lowOk p v && (highOk p v && butOk p.but v)
def emptyD (p : PD) : Bool := p.hl && (p.hh && (decide (0 < cmpV p.lo p.hi) || (cmpV p.lo p.hi == 0 && (!p.wl || (!p.wh || !hasD p p.lo)))))
def bothL (p q : PD) : PD := if q.hl then (if p.hl = false ∨ 0 < cmpV q.lo p.lo then { p with lo := q.lo, hl := true, wl := q.wl } else if cmpV q.lo p.lo = 0 then { p with wl := p.wl && q.wl } else p) else p
def bothH (p q : PD) : PD := if q.hh then (if p.hh = false ∨ cmpV q.hi p.hi < 0 then { p with hi := q.hi, hh := true, wh := q.wh } else if cmpV q.hi p.hi = 0 then { p with wh := p.wh && q.wh } else p) else p
def keepB (r : PD) : List SV → List SV → List SV
  | acc, [] => acc
  | acc, v :: l => keepB r (if hasD { r with but := acc } v then acc ++ [v] else acc) l
def bothD (p q : PD) : PD := { bothH (bothL p q) q with but := keepB (bothH (bothL p q) q) [] (p.but ++ q.but) }
structure PDok (p : PD) : Prop where
  lo : SVok p.lo
  hi : SVok p.hi
  but : ∀ x ∈ p.but, SVok x
theorem ok_z : SVok zVd := ⟨by decide, by decide, by decide, by decide, by decide, by decide, by decide, by decide⟩
theorem SVok.pre {v : SV} (h : SVok v) : v.pre.size ≤ 140737488351232 := Nat.le_trans h.p (by decide)
def cellsV (v : SV) : List Value := [.int .u64 v.major, .int .u64 v.minor, .int .u64 v.patch, .string v.pre, .string v.mt, .string v.orig]
def flatV (l : List SV) : List Value := l.flatMap cellsV
theorem flatV_app (a b : List SV) : flatV (a ++ b) = flatV a ++ flatV b := by unfold flatV; rw [List.flatMap_append]
theorem flatV_one : ∀ l : List SV, ∀ u ∈ flatV l, u.oneCell' = true := by
  intro l u hu
  obtain ⟨x, _, hx⟩ := List.mem_flatMap.1 hu
  simp [cellsV] at hx
  rcases hx with rfl | rfl | rfl | rfl | rfl | rfl <;> rfl
theorem flatV_at (l : List SV) (k : Nat) (h : k < l.length) : ((flatV l).drop (k * 6)).take 6 = cellsV l[k] := by
  induction l generalizing k with
  | nil => simp at h
  | cons x l ih =>
    have e : flatV (x :: l) = cellsV x ++ flatV l := rfl
    cases k with
    | zero => rw [e]; rfl
    | succ k =>
      have h2 : (k + 1) * 6 = (cellsV x).length + k * 6 := by show _ = 6 + _; omega
      rw [e, h2, ← List.drop_drop, List.drop_left]
      simpa using ih k (by simpa using h)
abbrev VsAt (w : World) (base : Nat) (v : Value) (l : List SV) : Prop := w.ownsRow base 197 6 v l.length (flatV l)
def pcl (p : PD) (bv : Value) : List Value := [.int .u64 p.lo.major, .int .u64 p.lo.minor, .int .u64 p.lo.patch, .string p.lo.pre, .string p.lo.mt, .string p.lo.orig, .int .u64 p.hi.major, .int .u64 p.hi.minor, .int .u64 p.hi.patch, .string p.hi.pre, .string p.hi.mt, .string p.hi.orig, .bool p.hl, .bool p.hh, .bool p.wl, .bool p.wh, bv]
theorem pcl_len (p : PD) (bv : Value) : (pcl p bv).length = 17 := rfl
theorem pcl_one (p : PD) {bv : Value} (h : bv.oneCell' = true) : ∀ u ∈ pcl p bv, u.oneCell' = true := by
  intro u hu
  simp [pcl] at hu
  rcases hu with rfl | rfl | rfl | rfl | rfl | rfl | rfl | rfl | rfl | rfl | rfl | rfl | rfl | rfl | rfl | rfl | rfl
  all_goals first | rfl | exact h
theorem row_one {w : World} {base : Nat} {e : TypeId} {sz n : Nat} {v : Value} {xs : List Value} (h : w.ownsRow base e sz v n xs) : v.oneCell' = true := by
  obtain ⟨A, c, rfl, _⟩ := row_val h; rfl
inductive PRep (w : World) (base : Nat) : List Value → List PD → Prop
  | nil : PRep w base [] []
  | cons {p : PD} {bv : Value} {xs : List Value} {l : List PD} (h : VsAt w base bv p.but) (t : PRep w base xs l) : PRep w base (pcl p bv ++ xs) (p :: l)
theorem PRep.keep {w w' : World} {base : Nat} {xs : List Value} {l : List PD} (h : PRep w base xs l) (hb : Below w.heap.size w w') : PRep w' base xs l := by
  induction h with
  | nil => exact PRep.nil
  | cons h _ ih => exact PRep.cons (row_keep h hb) ih
theorem PRep.mono {w : World} {base base' : Nat} {xs : List Value} {l : List PD} (h : PRep w base xs l) (hb : base' ≤ base) : PRep w base' xs l := by
  induction h with
  | nil => exact PRep.nil
  | cons h _ ih => exact PRep.cons (h.mono hb) ih
theorem PRep.len {w : World} {base : Nat} {xs : List Value} {l : List PD} (h : PRep w base xs l) : xs.length = l.length * 17 := by
  induction h with
  | nil => rfl
  | cons _ _ ih => rw [List.length_append, ih, List.length_cons, pcl_len]; omega
theorem PRep.one {w : World} {base : Nat} {xs : List Value} {l : List PD} (h : PRep w base xs l) : ∀ u ∈ xs, u.oneCell' = true := by
  induction h with
  | nil => intro u hu; cases hu
  | cons h _ ih =>
    intro u hu
    rcases List.mem_append.1 hu with hu | hu
    · exact pcl_one _ (row_one h) u hu
    · exact ih u hu
theorem PRep.app {w : World} {base : Nat} {xs ys : List Value} {l m : List PD} (h : PRep w base xs l) (k : PRep w base ys m) : PRep w base (xs ++ ys) (l ++ m) := by
  induction h with
  | nil => exact k
  | cons h _ ih => rw [List.append_assoc]; exact PRep.cons h ih
theorem PRep.snoc {w : World} {base : Nat} {xs : List Value} {l : List PD} {p : PD} {bv : Value} (h : PRep w base xs l) (k : VsAt w base bv p.but) : PRep w base (xs ++ pcl p bv) (l ++ [p]) := by
  have := h.app (PRep.cons k PRep.nil)
  rwa [List.append_nil] at this
theorem PRep.get {w : World} {base : Nat} {xs : List Value} {l : List PD} (h : PRep w base xs l) : ∀ (k : Nat) (hk : k < l.length), ∃ bv, (xs.drop (k * 17)).take 17 = pcl l[k] bv ∧ VsAt w 0 bv l[k].but := by
  induction h with
  | nil => intro k hk; simp at hk
  | cons h _ ih =>
    rename_i p bv xs l _
    intro k hk
    cases k with
    | zero => exact ⟨bv, by rfl, h.mono (Nat.zero_le _)⟩
    | succ k =>
      obtain ⟨bv2, h2, h3⟩ := ih k (by simpa using hk)
      refine ⟨bv2, ?_, h3⟩
      have e : (k + 1) * 17 = (pcl p bv).length + k * 17 := by rw [pcl_len]; omega
      rw [e, ← List.drop_drop, List.drop_left]
      exact h2
def RngAt (w : World) (base : Nat) (v : Value) (l : List PD) : Prop := ∃ xs, w.ownsRow base 242 17 v l.length xs ∧ PRep w base xs l
theorem RngAt.below {w w' : World} {base : Nat} {v : Value} {l : List PD} (h : RngAt w base v l) (hb : Below w.heap.size w w') : RngAt w' base v l := by
  obtain ⟨xs, h1, h2⟩ := h
  exact ⟨xs, row_keep h1 hb, h2.keep hb⟩
theorem RngAt.mono {w : World} {base base' : Nat} {v : Value} {l : List PD} (h : RngAt w base v l) (hb : base' ≤ base) : RngAt w base' v l := by
  obtain ⟨xs, h1, h2⟩ := h
  exact ⟨xs, h1.mono hb, h2.mono hb⟩
theorem RngAt.nil (w : World) (base : Nat) : RngAt w base (.slice none 0 0) [] := ⟨[], World.ownsRow_nil _ _ _ _, PRep.nil⟩
theorem RngAt.val {w : World} {base : Nat} {v : Value} {l : List PD} (h : RngAt w base v l) : ∃ A c, v = .slice A l.length c := by
  obtain ⟨xs, h1, _⟩ := h
  obtain ⟨A, c, rfl, _⟩ := row_val h1
  exact ⟨A, c, rfl⟩
theorem RngAt.get {w : World} {base : Nat} {v : Value} {l : List PD} (h : RngAt w base v l) {k : Nat} (hk : k < l.length) :
    ∃ g c bv, v = .slice (some ⟨g, 0, none⟩) l.length c ∧ w.rangeAt g (k * 17) (pcl l[k] bv) ∧ VsAt w 0 bv l[k].but := by
  obtain ⟨xs, h1, h2⟩ := h
  obtain ⟨g, c, rfl, h3⟩ := row_at h1 hk
  obtain ⟨bv, h4, h5⟩ := h2.get k hk
  exact ⟨g, c, bv, rfl, by rw [← h4]; exact h3, h5⟩
theorem VsAt.get {w : World} {base : Nat} {v : Value} {l : List SV} (h : VsAt w base v l) {k : Nat} (hk : k < l.length) :
    ∃ g c, v = .slice (some ⟨g, 0, none⟩) l.length c ∧ w.rangeAt g (k * 6) (cellsV l[k]) := by
  obtain ⟨g, c, rfl, h3⟩ := row_at h hk
  rw [flatV_at l k hk] at h3
  exact ⟨g, c, rfl, h3⟩
abbrev zPc : Array Value := #[.int .u64 0, .int .u64 0, .int .u64 0, .string ⟨#[]⟩, .string ⟨#[]⟩, .string ⟨#[]⟩, .int .u64 0, .int .u64 0, .int .u64 0, .string ⟨#[]⟩, .string ⟨#[]⟩, .string ⟨#[]⟩, .bool false, .bool false, .bool false, .bool false, .slice none 0 0]
instance pdI1 : RowC Tryz.prog 242 17 := ⟨⟨_, Tryz.underlying242, rfl⟩, by kernel_rfl⟩
instance pdI2 : RowC Tryz.prog 197 6 := ⟨⟨_, Tryz.underlying197, rfl⟩, by kernel_rfl⟩
instance pdI3 : RowC Tryz.prog 238 1 := ⟨⟨_, Tryz.underlying238, rfl⟩, by kernel_rfl⟩
instance pdI4 : OneC Tryz.prog 4 := ⟨⟨_, Tryz.underlying4, rfl⟩, by kernel_rfl⟩
instance pdI5 : OneC Tryz.prog 240 := ⟨⟨_, Tryz.underlying240, rfl⟩, by kernel_rfl⟩
instance pdI6 : OneC Tryz.prog 236 := ⟨⟨_, Tryz.underlying236, rfl⟩, by kernel_rfl⟩
instance pdI7 : ZeroC Tryz.prog 242 zPc := ⟨by kernel_rfl⟩
instance pdI8 : ZeroC Tryz.prog 197 zSV := ⟨by kernel_rfl⟩
instance pdI9 : ZeroC Tryz.prog 238 #[.slice none 0 0] := ⟨by kernel_rfl⟩
instance pdI10 : SlcC Tryz.prog 236 17 := ⟨⟨_, Tryz.underlying236, by kernel_rfl⟩⟩
instance pdI11 : SlcC Tryz.prog 240 6 := ⟨⟨_, Tryz.underlying240, by kernel_rfl⟩⟩
theorem infoPc : (Tryz.prog.info? 242).map (fun i => (i.zero, i.size, i.bytes)) = some (some (.agg zPc), 17, 176) := by kernel_rfl
theorem infoSv : (Tryz.prog.info? 197).map (fun i => (i.zero, i.size, i.bytes)) = some (some (.agg zSV), 6, 72) := by kernel_rfl
theorem wrap_step {k n : Nat} (h : k < n) (hn : n ≤ maxLen) : wrap64 ((k : Int) + 1) = ((k + 1 : Nat) : Int) := by
  unfold maxLen at hn
  rw [wrap_in (by omega) (by omega)]; omega
theorem meas_step {k n : Nat} (h : k < n) : n - (intOf (.int .i64 ((k + 1 : Nat) : Int))).toNat < n - (intOf (.int .i64 (k : Int))).toNat := by
  show n - (((k + 1 : Nat) : Int)).toNat < n - ((k : Int)).toNat
  omega
section
variable {P : Program} {ops : Array Oper} {rest : List Oper} {a : Act} {w : World} {Q : Exit → Act → World → Prop} {d : Option Tmp} {tt : TypeId} {pos : String} {af : Array Edge}
theorem m_loadr {ty : TypeId} {x : Operand} {b o n : Nat} {vs : List Value} (hr : w.rangeAt b o vs) (hx : a.eval x = .pointer (some ⟨b, o, none⟩) := by rfl) [ht : RowC P ty n] (hn : vs.length = n := by rfl) (h : wpList P ops Q rest (a.put d (.agg vs.toArray)) w) :
    wpList P ops Q (⟨d, .load ty x, tt, pos, af, none⟩ :: rest) a w := by
  obtain ⟨td, hu, hd⟩ := ht.out.row
  exact wpList_load_mid (op := ⟨d, .load ty x, tt, pos, af, none⟩) rfl ty x rfl b o hx vs td hr hu hd (by rw [ht.out.size, hn]) h
end
end Go.Proofs.YtgoeiflddikihaaGreatDoor.Ver
end
section
namespace Go.Proofs.YtgoeiflddikihaaGreatDoor.Ver
set_option linter.unusedSimpArgs false
set_option linter.unusedVariables false
open Go.RowKit Go.Proofs.YtgoeiflddikihaaGreatDoorW.PrintWords Go.Proofs.YtgoeiflddikihaaGreatDoor.Mem Go.Proofs.YtgoeiflddikihaaGreatDoor.Ord
theorem butOk_snoc (l : List SV) (v : SV) (k : Nat) (h : k < l.length) : butOk (l.take (k + 1)) v = (butOk (l.take k) v && !(cmpV l[k] v == 0)) := by
  unfold butOk
  rw [List.take_succ_eq_append_getElem h, List.all_append]
  simp
theorem butOk_bad {l : List SV} {v : SV} {k : Nat} (h : k < l.length) (hc : cmpV l[k] v = 0) : butOk l v = false := by
  unfold butOk
  rw [List.all_eq_false]
  exact ⟨l[k], List.getElem_mem h, by rw [hc]; decide⟩
set_option maxRecDepth 20000 in
set_option maxHeartbeats 8000000 in
theorem has_any (p : PD) (hp : PDok p) (v : SV) (hv : SVok v) (bv : Value) (w : World) (hbv : VsAt w 0 bv p.but) :
    Calls Tryz.prog 300 #[.agg (pcl p bv).toArray, .agg v.cells] w fun e w' => e = .returned (.bool (hasD p v)) ∧ Below w.heap.size w w' := by
  have HC1 := Lib.hid (fun W => cmp_any v p.lo hv.pre hp.lo.pre W)
  have HC2 := Lib.hid (fun W => cmp_any v p.hi hv.pre hp.hi.pre W)
  have HQ := Lib.hid (fun x (hx : x ∈ p.but) W => equal_any x v (hp.but x hx).pre hv.pre W)
  have CV1 := Lib.hid (cmpV_val v p.lo)
  have CV2 := Lib.hid (cmpV_val v p.hi)
  obtain ⟨r, hr⟩ : ∃ r, r = hasD p v := ⟨_, rfl⟩
  obtain ⟨a, ha⟩ : ∃ a, a = lowOk p v := ⟨_, rfl⟩
  obtain ⟨b, hb⟩ : ∃ b, b = highOk p v := ⟨_, rfl⟩
  have HR := Lib.hid (show r = (a && (b && butOk p.but v)) by rw [hr, ha, hb]; rfl)
  rw [← hr]
  unfold lowOk at ha
  unfold highOk at hb
  have HL := Lib.hid ha
  have HH := Lib.hid hb
  have HM := Aside0.mk (Blks.start w)
  obtain ⟨A, c, rfl, hmx⟩ := row_val hbv
  have HMX := Lib.hid hmx
  have HBV := Lib.hid (show w.ownsRow 0 197 6 (.slice A p.but.length c) p.but.length (flatV p.but) from hbv)
  clear hr ha hb hp hv hbv hmx
  generalize hc1 : cmpV v p.lo = c1 at *
  generalize hc2 : cmpV v p.hi = c2 at *
  clear hc1 hc2
  have HV := Lib.hid (rfl : v = v)
  obtain ⟨lo, hi, hl, hh, wl, wh, but⟩ := p
  obtain ⟨la, lb, lc, lp, lm, lq⟩ := lo
  obtain ⟨ha, hb0, hc, hp, hm, hq⟩ := hi
  obtain ⟨u, hu⟩ : ∃ u, u = v := ⟨_, rfl⟩
  have HU := Lib.hid hu
  obtain ⟨va, vb, vc, vp, vm, vo⟩ := v
  dsimp only [SV.cells, pcl] at HC1 HC2 HQ HL HH HR HBV ⊢
  rw [← hu] at HQ HR
  clear hu HV
  obtain ⟨n, hn⟩ : ∃ n, but.length = n := ⟨_, rfl⟩
  have HN := Lib.hid hn
  rw [hn] at HBV HMX ⊢
  clear hn
  go_enter Tryz.func300, Tryz.ntmps300
  go_upto_if 10 with (first | ((with_reducible refine id_box ?_); (refine n_bx (x := .tmp 0) ?_; clear HM; intro b2 wq HM)) | ((with_reducible refine id_box ?_); (refine n_bx (x := .tmp 1) ?_; clear HM; intro b3 wq HM)) | ((with_reducible refine id_load ?_); refine n_ld1 ?_))
  go_simp
  go_cut [4] from 4 to 25 (fun v4 wx => v4 = .bool false ∧ Hid (a = true) ∧ Aside0 (Blks w wx [(b3, [.int .u64 va, .int .u64 vb, .int .u64 vc, .string vp, .string vm, .string vo], 197), (b2, [.int .u64 la, .int .u64 lb, .int .u64 lc, .string lp, .string lm, .string lq, .int .u64 ha, .int .u64 hb0, .int .u64 hc, .string hp, .string hm, .string hq, .bool hl, .bool hh, .bool wl, .bool wh, .slice A n c], 242)]))
  case first =>
    cases hl with
    | false =>
      go_wp2_with (first | ((with_reducible refine id_load ?_); refine n_ld1 ?_) | ((with_reducible refine id_load ?_); refine n_ld ?_))
      go_meet
      case rel => exact ⟨rfl, Lib.hid (by rw [HL.out]; rfl), ⟨n_own⟩⟩
    | true =>
      rcases CV1.out with hc | hc | hc
      · rw [hc] at HC1 HL
        clear hc
        go_wp2_with (first | ((with_reducible refine id_load ?_); refine n_ld1 ?_) | ((with_reducible refine id_load ?_); refine n_ld ?_) | (go_at_call 209; ((with_reducible refine (HC1.out _).mono ?_); rintro e wc ⟨rfl, hb⟩; replace HM := n_call hb; clear hb)))
        (try simp only [Exit.inBlock, Exit.then])
        go_ret
        exact ⟨by rw [HR.out, HL.out]; rfl, HM.out.bel⟩
      · rw [hc] at HC1 HL
        clear hc
        cases wl with
        | false =>
          go_upto_region 3 with (first | ((with_reducible refine id_load ?_); refine n_ld1 ?_) | ((with_reducible refine id_load ?_); refine n_ld ?_) | (go_at_call 209; ((with_reducible refine (HC1.out _).mono ?_); rintro e wc ⟨rfl, hb⟩; replace HM := n_call hb; clear hb)))
          have k14 := n_cell (b := b2) (o := 14)
          go_wp2_with (first | ((with_reducible refine id_load ?_); refine n_ld1 ?_) | ((with_reducible refine id_load ?_); refine n_ld ?_))
          (try simp only [Exit.inBlock, Exit.then])
          go_ret
          exact ⟨by rw [HR.out, HL.out]; rfl, HM.out.bel⟩
        | true =>
          go_upto_region 3 with (first | ((with_reducible refine id_load ?_); refine n_ld1 ?_) | ((with_reducible refine id_load ?_); refine n_ld ?_) | (go_at_call 209; ((with_reducible refine (HC1.out _).mono ?_); rintro e wc ⟨rfl, hb⟩; replace HM := n_call hb; clear hb)))
          have k14 := n_cell (b := b2) (o := 14)
          go_wp2_with (first | ((with_reducible refine id_load ?_); refine n_ld1 ?_) | ((with_reducible refine id_load ?_); refine n_ld ?_))
          go_meet
          case rel => exact ⟨rfl, Lib.hid (by rw [HL.out]; rfl), ⟨n_own⟩⟩
      · rw [hc] at HC1 HL
        clear hc
        go_wp2_with (first | ((with_reducible refine id_load ?_); refine n_ld1 ?_) | ((with_reducible refine id_load ?_); refine n_ld ?_) | (go_at_call 209; ((with_reducible refine (HC1.out _).mono ?_); rintro e wc ⟨rfl, hb⟩; replace HM := n_call hb; clear hb)))
        go_meet
        case rel => exact ⟨rfl, Lib.hid (by rw [HL.out]; rfl), ⟨n_own⟩⟩
  case rest =>
  clear HM
  obtain ⟨rfl, HA, HM⟩ := hcut
  go_upto_if 27 with (first | ((with_reducible refine id_load ?_); refine n_ld1 ?_))
  go_simp
  go_cut [4] from 4 to 42 (fun v4 wx => v4 = .bool false ∧ Hid (b = true) ∧ Aside0 (Blks w wx [(b3, [.int .u64 va, .int .u64 vb, .int .u64 vc, .string vp, .string vm, .string vo], 197), (b2, [.int .u64 la, .int .u64 lb, .int .u64 lc, .string lp, .string lm, .string lq, .int .u64 ha, .int .u64 hb0, .int .u64 hc, .string hp, .string hm, .string hq, .bool hl, .bool hh, .bool wl, .bool wh, .slice A n c], 242)]))
  case first =>
    cases hh with
    | false =>
      go_wp2_with (first | ((with_reducible refine id_load ?_); refine n_ld1 ?_) | ((with_reducible refine id_load ?_); refine n_ld ?_))
      go_meet
      case rel => exact ⟨rfl, Lib.hid (by rw [HH.out]; rfl), ⟨n_own⟩⟩
    | true =>
      rcases CV2.out with hc | hc | hc
      · rw [hc] at HC2 HH
        clear hc
        go_wp2_with (first | ((with_reducible refine id_load ?_); refine n_ld1 ?_) | ((with_reducible refine id_load ?_); refine n_ld ?_) | (go_at_call 209; ((with_reducible refine (HC2.out _).mono ?_); rintro e wc ⟨rfl, hb⟩; replace HM := n_call hb; clear hb)))
        go_meet
        case rel => exact ⟨rfl, Lib.hid (by rw [HH.out]; rfl), ⟨n_own⟩⟩
      · rw [hc] at HC2 HH
        clear hc
        cases wh with
        | false =>
          go_upto_region 7 with (first | ((with_reducible refine id_load ?_); refine n_ld1 ?_) | ((with_reducible refine id_load ?_); refine n_ld ?_) | (go_at_call 209; ((with_reducible refine (HC2.out _).mono ?_); rintro e wc ⟨rfl, hb⟩; replace HM := n_call hb; clear hb)))
          have k15 := n_cell (b := b2) (o := 15)
          go_wp2_with (first | ((with_reducible refine id_load ?_); refine n_ld1 ?_) | ((with_reducible refine id_load ?_); refine n_ld ?_))
          (try simp only [Exit.inBlock, Exit.then])
          go_ret
          exact ⟨by rw [HR.out, HA.out, HH.out]; rfl, HM.out.bel⟩
        | true =>
          go_upto_region 7 with (first | ((with_reducible refine id_load ?_); refine n_ld1 ?_) | ((with_reducible refine id_load ?_); refine n_ld ?_) | (go_at_call 209; ((with_reducible refine (HC2.out _).mono ?_); rintro e wc ⟨rfl, hb⟩; replace HM := n_call hb; clear hb)))
          have k15 := n_cell (b := b2) (o := 15)
          go_wp2_with (first | ((with_reducible refine id_load ?_); refine n_ld1 ?_) | ((with_reducible refine id_load ?_); refine n_ld ?_))
          go_meet
          case rel => exact ⟨rfl, Lib.hid (by rw [HH.out]; rfl), ⟨n_own⟩⟩
      · rw [hc] at HC2 HH
        clear hc
        go_wp2_with (first | ((with_reducible refine id_load ?_); refine n_ld1 ?_) | ((with_reducible refine id_load ?_); refine n_ld ?_) | (go_at_call 209; ((with_reducible refine (HC2.out _).mono ?_); rintro e wc ⟨rfl, hb⟩; replace HM := n_call hb; clear hb)))
        (try simp only [Exit.inBlock, Exit.then])
        go_ret
        exact ⟨by rw [HR.out, HA.out, HH.out]; rfl, HM.out.bel⟩
  case rest =>
  clear HM
  obtain ⟨rfl, HB, HM⟩ := hcut
  go_wp2_with (first | ((with_reducible refine id_load ?_); refine n_ld1 ?_))
  go_loopw [46] (fun v46 wr => ∃ k : Nat, v46 = .int .i64 (k : Int) ∧ k ≤ n ∧ Hid (butOk (but.take k) u = true) ∧ Aside0 (Blks w wr [(b3, [.int .u64 va, .int .u64 vb, .int .u64 vc, .string vp, .string vm, .string vo], 197), (b2, [.int .u64 la, .int .u64 lb, .int .u64 lc, .string lp, .string lm, .string lq, .int .u64 ha, .int .u64 hb0, .int .u64 hc, .string hp, .string hm, .string hq, .bool hl, .bool hh, .bool wl, .bool wh, .slice A n c], 242)])) (fun v _ => n - (intOf v).toNat)
  case atStart => exact ⟨0, rfl, Nat.zero_le _, Lib.hid rfl, ⟨n_own⟩⟩
  case round =>
    obtain ⟨k, rfl, hk, HK, HM1⟩ := hrel
    clear HM
    have HM := HM1
    clear HM1
    by_cases hlt : k < n
    · have hb' : k < but.length := by have := HN.out; omega
      obtain ⟨g, cc, hg, hat⟩ := row_at (row_keep HBV.out HM.out.bel) hlt
      rw [flatV_at but k hb'] at hat
      obtain ⟨rfl, _, rfl⟩ := Value.slice.inj hg
      have HE := Lib.hid hat
      have HX := Lib.hid (fun W => HQ.out but[k] (List.getElem_mem hb') W)
      have HS := Lib.hid (butOk_snoc but u k hb')
      have HBAD := Lib.hid (butOk_bad (v := u) hb')
      clear hat hg
      generalize but[k] = x at HE HX HS HBAD
      rw [HK.out, Bool.true_and] at HS
      generalize hq : cmpV x u = q at *
      obtain ⟨xa, xb, xc, xp, xm, xo⟩ := x
      dsimp only [SV.cells, cellsV] at HE HX
      by_cases h0 : q = 0
      · subst h0
        go_wp2_with (first | ((with_reducible refine id_index ?_); refine m_index (x := .tmp 44) hlt rfl rfl ?_) | (go_at_call 234; ((with_reducible refine (HX.out _).mono ?_); rintro e wc ⟨rfl, hb⟩; replace HM := n_call hb; clear hb)) | ((with_reducible refine id_load ?_); refine n_ld1 ?_) | ((with_reducible refine id_load ?_); refine n_ld ?_) | ((with_reducible refine id_load ?_); refine m_loadr (x := .tmp 48) HE.out rfl rfl ?_) | ((with_reducible refine id_alloc ?_); (refine n_al ?_; clear HM; intro b8 wq HM)) | ((with_reducible refine id_store ?_); (refine n_st ?_; clear HM; intro wq HM)))
        (try simp only [Exit.inBlock, Exit.then])
        go_ret
        exact ⟨by rw [HR.out, HBAD.out (by trivial)]; simp, HM.out.bel⟩
      · have q0 : (q == 0) = false := beq_eq_false_iff_ne.2 h0
        rw [q0] at HS HX
        go_wp2_with (first | ((with_reducible refine id_index ?_); refine m_index (x := .tmp 44) hlt rfl rfl ?_) | (go_at_call 234; ((with_reducible refine (HX.out _).mono ?_); rintro e wc ⟨rfl, hb⟩; replace HM := n_call hb; clear hb)) | ((with_reducible refine id_load ?_); refine n_ld1 ?_) | ((with_reducible refine id_load ?_); refine n_ld ?_) | ((with_reducible refine id_load ?_); refine m_loadr (x := .tmp 48) HE.out rfl rfl ?_) | ((with_reducible refine id_alloc ?_); (refine n_al ?_; clear HM; intro b8 wq HM)) | ((with_reducible refine id_store ?_); (refine n_st ?_; clear HM; intro wq HM)))
        refine ⟨⟨k + 1, ?_, by omega, Lib.hid (by rw [HS.out]; rfl), ⟨Blks.drop n_own⟩⟩, ?_⟩
        · rw [wrap_step hlt HMX.out]
        · rw [wrap_step hlt HMX.out]; exact meas_step hlt
    · have : k = n := by omega
      subst this
      go_wp2_with fail
      go_ret
      exact ⟨by rw [HR.out, HA.out, HB.out]; rw [List.take_of_length_le (by have := HN.out; omega)] at HK; rw [HK.out]; rfl, HM.out.bel⟩
end Go.Proofs.YtgoeiflddikihaaGreatDoor.Ver
end
section
namespace Go.Proofs.YtgoeiflddikihaaGreatDoor.Ver
set_option linter.unusedSimpArgs false
set_option linter.unusedVariables false
open Go.RowKit Go.Proofs.YtgoeiflddikihaaGreatDoorW.PrintWords Go.Proofs.YtgoeiflddikihaaGreatDoor.Mem Go.Proofs.YtgoeiflddikihaaGreatDoor.Ord
def rngD (l : List PD) (v : SV) : Bool := l.any (fun p => hasD p v)
def MatchEnd (b : Bool) (w : World) (e : Ending) (w' : World) : Prop := (match b with | true => e = .returned .nilIface | false => ∃ a, e = .returned (.iface 260 (.pointer (some a)))) ∧ Below w.heap.size w w'
theorem rngD_step (l : List PD) (v : SV) (k : Nat) (h : k < l.length) : rngD (l.take (k + 1)) v = (rngD (l.take k) v || hasD l[k] v) := by
  unfold rngD
  rw [List.take_succ_eq_append_getElem h, List.any_append]
  simp
theorem rngD_yes {l : List PD} {v : SV} {k : Nat} (h : k < l.length) (hc : hasD l[k] v = true) : rngD l v = true := by
  unfold rngD
  rw [List.any_eq_true]
  exact ⟨l[k], List.getElem_mem h, hc⟩
def RngOk (l : List PD) : Prop := ∀ p ∈ l, PDok p
set_option maxRecDepth 20000 in
set_option maxHeartbeats 8000000 in
theorem rm_any (l : List PD) (hl : RngOk l) (v : SV) (hv : SVok v) (rv : Value) (w : World) (hr : RngAt w 0 rv l) :
    Calls Tryz.prog 296 #[.agg #[rv], .agg v.cells] w (MatchEnd (rngD l v) w) := by
  obtain ⟨A, c, rfl⟩ := hr.val
  obtain ⟨xs, hrow, hrep⟩ := hr
  have hmx := (row_val hrow).choose_spec.choose_spec.2
  obtain ⟨r, hrr⟩ : ∃ r, r = rngD l v := ⟨_, rfl⟩
  rw [← hrr]
  have HR := Lib.hid hrr
  have HV := Lib.hid hv
  have HL := Lib.hid hl
  obtain ⟨n, hn⟩ : ∃ n, l.length = n := ⟨_, rfl⟩
  rw [hn] at hrow hmx ⊢
  have HN := Lib.hid hn
  have HMX := Lib.hid hmx
  have HROW := Lib.hid hrow
  have HREP := Lib.hid hrep
  have HM := Aside0.mk (Blks.start w)
  clear hrr hv hl hn hmx hrow hrep
  dsimp only [SV.cells]
  go_enter Tryz.func296, Tryz.ntmps296
  go_wp2_with (first | ((with_reducible refine id_box ?_); (refine n_bx (x := .tmp 0) ?_; clear HM; intro b2 wq HM)) | ((with_reducible refine id_box ?_); (refine n_bx (x := .tmp 1) ?_; clear HM; intro b3 wq HM)) | ((with_reducible refine id_load ?_); refine n_ld1 ?_))
  go_loopw [10] (fun v10 wr => ∃ k : Nat, v10 = .int .i64 (k : Int) ∧ k ≤ n ∧ Hid (rngD (l.take k) v = false) ∧ Aside0 (Blks w wr [(b3, [.int .u64 v.major, .int .u64 v.minor, .int .u64 v.patch, .string v.pre, .string v.mt, .string v.orig], 197), (b2, [.slice A n c], 238)])) (fun v10 _ => n - (intOf v10).toNat)
  case atStart => exact ⟨0, rfl, Nat.zero_le _, Lib.hid rfl, ⟨n_own⟩⟩
  case round =>
    obtain ⟨k, rfl, hk, HK, HM1⟩ := hrel
    clear HM
    have HM := HM1
    clear HM1
    by_cases hlt : k < n
    · have hb' : k < l.length := by have := HN.out; omega
      obtain ⟨g, cc, hg, hat⟩ := row_at (row_keep HROW.out HM.out.bel) hlt
      obtain ⟨bv, hpc, hbv⟩ := HREP.out.get k hb'
      rw [hpc] at hat
      obtain ⟨rfl, _, rfl⟩ := Value.slice.inj hg
      have HE := Lib.hid hat
      have HH := Lib.hid (fun W (h : VsAt W 0 bv l[k].but) => has_any l[k] (HL.out _ (List.getElem_mem hb')) v HV.out bv W h)
      have HB := Lib.hid hbv
      have HO := Lib.hid (row_one hbv)
      have HS := Lib.hid (rngD_step l v k hb')
      have HY := Lib.hid (rngD_yes (v := v) hb')
      obtain ⟨Ab, cb, rfl, _⟩ := row_val hbv
      clear hat hg hpc hbv
      generalize l[k] = p at HE HH HB HS HY
      rw [HK.out, Bool.false_or] at HS
      generalize hq : hasD p v = q at *
      clear hq
      dsimp only [SV.cells, pcl] at HE HH
      cases q with
      | true =>
        go_wp2_with (first | ((with_reducible refine id_index ?_); refine m_index (x := .tmp 8) hlt rfl rfl ?_) | (go_at_call 300; ((with_reducible refine (HH.out _ (row_keep HB.out n_bel)).mono ?_); rintro e wc ⟨rfl, hb⟩; replace HM := n_call hb; clear hb)) | ((with_reducible refine id_load ?_); refine n_ld1 ?_) | ((with_reducible refine id_load ?_); refine n_ld ?_) | ((with_reducible refine id_load ?_); refine m_loadr (x := .tmp 12) HE.out rfl rfl ?_) | ((with_reducible refine id_alloc ?_); (refine n_al ?_; clear HM; intro b6 wq HM)) | ((with_reducible refine id_store ?_); (refine n_st ?_; clear HM; intro wq HM)))
        (try simp only [Exit.inBlock, Exit.then])
        have hr := HR.out
        rw [HY.out (by trivial)] at hr
        subst hr
        go_ret
        exact ⟨rfl, HM.out.bel⟩
      | false =>
        go_wp2_with (first | ((with_reducible refine id_index ?_); refine m_index (x := .tmp 8) hlt rfl rfl ?_) | (go_at_call 300; ((with_reducible refine (HH.out _ (row_keep HB.out n_bel)).mono ?_); rintro e wc ⟨rfl, hb⟩; replace HM := n_call hb; clear hb)) | ((with_reducible refine id_load ?_); refine n_ld1 ?_) | ((with_reducible refine id_load ?_); refine n_ld ?_) | ((with_reducible refine id_load ?_); refine m_loadr (x := .tmp 12) HE.out rfl rfl ?_) | ((with_reducible refine id_alloc ?_); (refine n_al ?_; clear HM; intro b6 wq HM)) | ((with_reducible refine id_store ?_); (refine n_st ?_; clear HM; intro wq HM)))
        refine ⟨⟨k + 1, ?_, by omega, HS, ⟨Blks.drop n_own⟩⟩, ?_⟩
        · rw [wrap_step hlt HMX.out]
        · rw [wrap_step hlt HMX.out]; exact meas_step hlt
    · have : k = n := by omega
      subst this
      go_wp2_with (go_at_call 144; ((with_reducible refine (new_any _ _).mono ?_); rintro e wn ⟨rfl, rfl⟩))
      have hr := HR.out
      have hk0 := HK.out
      rw [List.take_of_length_le (by have := HN.out; omega)] at hk0
      rw [hk0] at hr
      subst hr
      go_ret
      exact ⟨⟨_, rfl⟩, (Blks.other HM.out _).bel⟩
set_option maxRecDepth 20000 in
set_option maxHeartbeats 8000000 in
theorem vm_any (v u : SV) (hv : SVok v) (hu : SVok u) (w : World) : Calls Tryz.prog 232 #[.agg v.cells, .agg u.cells] w (MatchEnd (cmpV v u == 0) w) := by
  have HE := Lib.hid (fun W => equal_any v u hv.pre hu.pre W)
  have HM := Aside0.mk (Blks.start w)
  clear hv hu
  generalize (cmpV v u == 0) = b at *
  dsimp only [SV.cells] at HE ⊢
  go_enter Tryz.func232, Tryz.ntmps232
  cases b with
  | true =>
    go_wp2_with (first | ((with_reducible refine id_box ?_); (refine n_bx (x := .tmp 0) ?_; clear HM; intro b2 wq HM)) | ((with_reducible refine id_box ?_); (refine n_bx (x := .tmp 1) ?_; clear HM; intro b3 wq HM)) | (go_at_call 234; ((with_reducible refine (HE.out _).mono ?_); rintro e wc ⟨rfl, hb⟩; replace HM := n_call hb; clear hb)) | ((with_reducible refine id_load ?_); refine n_ld ?_))
    go_ret
    exact ⟨rfl, HM.out.bel⟩
  | false =>
    go_wp2_with (first | ((with_reducible refine id_box ?_); (refine n_bx (x := .tmp 0) ?_; clear HM; intro b2 wq HM)) | ((with_reducible refine id_box ?_); (refine n_bx (x := .tmp 1) ?_; clear HM; intro b3 wq HM)) | (go_at_call 234; ((with_reducible refine (HE.out _).mono ?_); rintro e wc ⟨rfl, hb⟩; replace HM := n_call hb; clear hb)) | (go_at_call 144; ((with_reducible refine (new_any _ _).mono ?_); rintro e wn ⟨rfl, rfl⟩)) | ((with_reducible refine id_load ?_); refine n_ld ?_))
    go_ret
    exact ⟨⟨_, rfl⟩, (Blks.other HM.out _).bel⟩
inductive CnD where
  | ver (v : SV)
  | rng (l : List PD)
def CnD.matches (c : CnD) (v : SV) : Bool := match c with
  | .ver u => cmpV u v == 0
  | .rng l => rngD l v
def CnD.ok (c : CnD) : Prop := match c with
  | .ver u => SVok u
  | .rng l => RngOk l
def CnAt (w : World) (base : Nat) (c : CnD) (x : Value) : Prop := match c with
  | .ver u => x = .iface 197 (.agg u.cells)
  | .rng l => ∃ rv, x = .iface 238 (.agg #[rv]) ∧ RngAt w base rv l
theorem CnAt.keep {w w' : World} {base : Nat} {c : CnD} {x : Value} (h : CnAt w base c x) (hb : Below w.heap.size w w') : CnAt w' base c x := by
  cases c with
  | ver u => exact h
  | rng l => obtain ⟨rv, h1, h2⟩ := h; exact ⟨rv, h1, h2.below hb⟩
theorem CnAt.mono {w : World} {base base' : Nat} {c : CnD} {x : Value} (h : CnAt w base c x) (hb : base' ≤ base) : CnAt w base' c x := by
  cases c with
  | ver u => exact h
  | rng l => obtain ⟨rv, h1, h2⟩ := h; exact ⟨rv, h1, h2.mono hb⟩
end Go.Proofs.YtgoeiflddikihaaGreatDoor.Ver
end
