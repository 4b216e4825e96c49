/- Merged by program out of: SortQ, SortR, SortW. -/
import Derived.Test.YtgoeiflddikihaaGreatDoorCaM15
import Derived.Test.YtgoeiflddikihaaGreatDoorCaM12
import Derived.Test.YtgoeiflddikihaaGreatDoorCaM35
import Derived.Test.YtgoeiflddikihaaGreatDoorCaM43
import Derived.Test.YtgoeiflddikihaaGreatDoorCaM4
import Derived.Test.YtgoeiflddikihaaGreatDoorCaM39
import Derived.BigQuiet
section
namespace Go.Proofs.YtgoeiflddikihaaGreatDoor.Ver
set_option linter.unusedSimpArgs false
set_option linter.unusedVariables false
open Go.RowKit Go.Proofs.YtgoeiflddikihaaGreatDoor.PFnVersion Go.Proofs.YtgoeiflddikihaaGreatDoorW.PrintWords Go.Proofs.YtgoeiflddikihaaGreatDoor.Mem Go.Proofs.YtgoeiflddikihaaGreatDoor.Srt Go.Proofs.YtgoeiflddikihaaGreatDoor.Ord Go.Proofs.YtgoeiflddikihaaGreatDoor.Ins Go.Sort
def c27 (x : S27) : List Value := [.int .i64 x.f0, .string x.f1, .string x.f2]
def flat27 (l : List S27) : List Value := l.flatMap c27
theorem flat27_len (l : List S27) : (flat27 l).length = l.length * 3 := by
  induction l with
  | nil => rfl
  | cons x l ih => show (c27 x ++ flat27 l).length = _; rw [List.length_append, ih, List.length_cons]; show 3 + _ = _; omega
theorem flat27_to (l : List S27) : flat27 l = flat3 (l.map to30) := by
  induction l with
  | nil => rfl
  | cons x l ih => show c27 x ++ flat27 l = c3 (to30 x) ++ flat3 (l.map to30); rw [ih]; rfl
theorem flat27_one : ∀ l : List S27, ∀ u ∈ flat27 l, u.oneCell' = true := by
  intro l u hu
  unfold flat27 at hu
  obtain ⟨x, _, hx⟩ := List.mem_flatMap.1 hu
  simp [c27] at hx
  rcases hx with rfl | rfl | rfl <;> rfl
theorem reps27 (w : World) (base : Nat) (ok : Nat → Prop) : ∀ l : List S27, Reps (k27.M w base ok) 3 l (flat27 l)
  | [] => Reps.none _ _
  | x :: l => Reps.c3 (k27_mkM w base ok x) (reps27 w base ok l)
theorem reps_eq {α : Type} {R : α → List Value → Prop} {f : α → List Value} (hf : ∀ x cs, R x cs → cs = f x) : ∀ (l : List α) (cs : List Value), Reps R 3 l cs → cs = l.flatMap f
  | [], cs, h => by
    have := h.1
    simp at this
    rw [this]; rfl
  | x :: l, cs, h => by
    have h0 := hf _ _ (h.2 0 x rfl)
    have e := reps_eq hf l (cs.drop 3) ⟨by rw [List.length_drop, h.1, List.length_cons]; omega, fun j p hj => by
      have := h.2 (j + 1) p (by simpa using hj)
      rw [List.drop_drop]
      rwa [show (j + 1) * 3 = 3 + j * 3 by omega] at this⟩
    rw [List.flatMap_cons, ← e, ← h0]
    simp
theorem row27 {w : World} {base n : Nat} {v : Value} {l : List S27} (hn : l.length = n) (h : w.ownsRow base 27 3 v n (flat27 l)) : ∃ A c, v = .slice A l.length c ∧ l.length ≤ c ∧ Kd.C k27 w A l.length l := by
  subst hn
  exact Kd.R_reads (e := 27) (base := base) (ok := fun _ => True) ⟨fun _ _ => trivial, _, h, reps27 w base _ l⟩
theorem vok_of {w0 w : World} {ok : Nat → Prop} {v : Value} {out : List S30} (h : Kd.R k30 30 w w0.heap.size ok v out) (hb : Below w0.heap.size w0 w) : ∃ X, VOk out v X ∧ Blks w0 w X := by
  obtain ⟨_, inner, ho, hr⟩ := h
  have e : inner = flat3 out := reps_eq (fun x cs hx => by rw [k30_openM hx]; rfl) _ _ hr
  subst e
  rcases ho.2 with ⟨rfl, h0⟩ | ⟨g, cap, cur, rfl, hg, hc, h1, h2, h3, ht⟩
  · exact ⟨[], Or.inl ⟨rfl, List.length_eq_zero_iff.1 h0, rfl⟩, hb, by simp, by simp, by simp⟩
  · have hd : Kd.sz k30 = 3 := rfl
    have e1 : cur.toList = flat3 out ++ cur.toList.drop (out.length * 3) := by rw [← ht, hd, List.take_append_drop]
    refine ⟨[(g, flat3 out ++ cur.toList.drop (out.length * 3), 30)], Or.inr ⟨g, cap, _, rfl, h1, h2, rfl⟩, hb, ?_, ?_, by simp⟩
    · intro x hx
      obtain rfl := List.mem_singleton.1 hx
      show w.heap[g]? = some (.cells (flat3 out ++ cur.toList.drop (out.length * 3)).toArray _ _)
      rw [← e1]; simpa using hc
    · intro x hx
      obtain rfl := List.mem_singleton.1 hx
      exact hg
theorem nil27 (A : Option Addr) (c : Nat) (w : World) : (Builtin.append_ #[23, 23] 23 #[.slice none 0 0, .slice A 0 c]).run Tryz.prog w = .ok (.slice none 0 0) w := by
  cases A <;> kernel_rfl
theorem app27 (A : Option Addr) (c : Nat) (l : List S27) (w : World) (h : Kd.C k27 w A l.length l) (hl : l.length ≤ 1000000) :
    ∃ v' w', (Builtin.append_ #[23, 23] 23 #[.slice none 0 0, .slice A l.length c]).run Tryz.prog w = .ok v' w' ∧ w'.ownsRow w.heap.size 27 3 v' l.length (flat27 l) ∧ RowKit.Below w.heap.size w w' := by
  by_cases hne : l.length = 0
  · obtain rfl := List.length_eq_zero_iff.1 hne
    exact ⟨_, _, nil27 A c w, World.ownsRow_nil _ _ _ _, RowKit.Below.refl _ _⟩
  · obtain ⟨ad, rfl, _⟩ := h.2.2 (by omega)
    obtain ⟨inner, hr, hc⟩ := ReadsRow.inner_ h
    have e : inner = flat27 l := reps_eq (fun x cs hx => k27_open hx) _ _ hr
    subst e
    obtain ⟨i, hi, hz0, hz1, hz2⟩ := info_parts infoV
    obtain ⟨v', w', h1, h2, h3, _⟩ := run_append_own (P := Tryz.prog) w w.heap.size 23 23 27 i _ 3 40 Tryz.underlying23 hi hz0 hz1 hz2 rfl (by decide) (.slice none 0 0) 0 [] (World.ownsRow_nil _ _ _ _)
      ad l.length c (flat27 l) (flat27_len l) hc (flat27_one l) (by unfold maxLen; omega) (by omega) (Nat.le_refl _)
    rw [Nat.zero_add] at h2
    exact ⟨v', w', h1, h2, pw_below_grown (RowKit.Below.refl _ _) none (Nat.le_refl _) h3 (fun k hk => by cases hk)⟩
theorem to_flat (l : List S27) (j : Nat) (h : j < l.length) : (flat27 l)[j * 3]? = some (.int .i64 l[j].f0) ∧ (flat27 l)[j * 3 + 1]? = some (.string l[j].f1) ∧ (flat27 l)[j * 3 + 2]? = some (.string l[j].f2) := by
  have e := flat27_to l
  have hj : j < (l.map to30).length := by rw [List.length_map]; exact h
  have := flat3_at (l.map to30) j hj
  rw [List.getElem_map] at this
  rw [e]; exact this
def vds (l : List S27) (hr : ∀ x ∈ l, x.f1.size ≤ 2147483647) : List VD := l.pmap (fun x h => ⟨x.f0, x.f1, x.f2, h⟩) hr
theorem at27 {w : World} {base : Nat} {v : Value} {l : List S27} (hr : ∀ x ∈ l, x.f1.size ≤ 2147483647) (h : w.ownsRow base 27 3 v l.length (flat27 l)) : AtV w v (vds l hr) := by
  have hlen : (vds l hr).length = l.length := by simp [vds]
  by_cases hne : l.length = 0
  · obtain ⟨A, c, e, _⟩ := row27 rfl h
    exact ⟨A, c, by rw [hlen]; exact e, fun h => by rw [hlen] at h; omega⟩
  · obtain ⟨g, cap, cells, rest, rfl, _, hc, hl, _⟩ := row_block h (by omega)
    refine ⟨_, cap, by rw [hlen], fun _ => ⟨g, 0, rfl, fun i hi => ?_⟩⟩
    have hi' : i < l.length := by rw [← hlen]; exact hi
    have e : (vds l hr)[i] = ⟨l[i].f0, l[i].f1, l[i].f2, hr _ (List.getElem_mem hi')⟩ := by simp [vds, List.getElem_pmap]
    rw [e]
    have hf := to_flat l i hi'
    have key : ∀ j u, (flat27 l)[j]? = some u → w.cell? ⟨g, j, none⟩ = some u := by
      intro j u hu
      rw [cell_of_row w g j _ _ (0, 0) hc, ← Array.getElem?_toList, hl]
      rw [List.getElem?_append_left (List.getElem?_eq_some_iff.1 hu).1]; exact hu
    rw [Nat.zero_add]
    exact ⟨key _ _ hf.1, key _ _ hf.2.1, key _ _ hf.2.2⟩
end Go.Proofs.YtgoeiflddikihaaGreatDoor.Ver
end
section
namespace Go.Proofs.YtgoeiflddikihaaGreatDoor.Ver
set_option linter.unusedSimpArgs false
set_option linter.unusedVariables false
open Go.RowKit Go.Proofs.YtgoeiflddikihaaGreatDoor.Dig Go.Proofs.YtgoeiflddikihaaGreatDoor.PFnVersion Go.Proofs.YtgoeiflddikihaaGreatDoorW.PrintWords Go.Proofs.YtgoeiflddikihaaGreatDoor.Mem Go.Proofs.YtgoeiflddikihaaGreatDoor.Srt Go.Proofs.YtgoeiflddikihaaGreatDoor.Ord Go.Proofs.YtgoeiflddikihaaGreatDoor.Ins Go.Sort
def s27 : Vers → S27
  | .rev s => ⟨0, s, ⟨#[]⟩⟩
  | .un u => ⟨u.kind, u.word, ⟨#[]⟩⟩
  | .pair u r => ⟨u.kind, u.word, r⟩
theorem back_cells (v : Vers) : (backV v).cells.toList = c27 (s27 v) := by cases v <;> rfl
theorem newV_word {t : ByteArray} (ht : t.size ≤ 2147483647) : (newV t).word = t ∧ (newV t).kind = 3 := by
  unfold newV
  cases h : readV t with
  | none => exact ⟨rfl, rfl⟩
  | some p => exact ⟨(readV_ok' ht h).2, rfl⟩
theorem s27_ver {k : Int} {t r : ByteArray} (h : RightV k t r) : s27 (verV k t r) = ⟨k, t, r⟩ := by
  have ht : t.size ≤ 2147483647 := by have := h.t60; omega
  obtain ⟨w1, w2⟩ := newV_word ht
  have h0 := h.k0
  have h3 := h.k3
  have hk : k = 0 ∨ k = 1 ∨ k = 2 ∨ k = 3 := by omega
  rcases hk with rfl | rfl | rfl | rfl
  · obtain rfl := h.rk rfl
    rfl
  all_goals
    unfold verV
    by_cases hr : r = ⟨#[]⟩
    · subst hr
      first | (simp [unpV, s27, w1, w2]; done) | simp [unpV, s27, Unp.kind, Unp.word]
    · first | (simp [unpV, hr, s27, w1, w2]; done) | simp [unpV, hr, s27, Unp.kind, Unp.word]
abbrev AllRight (l : List S27) : Prop := ∀ x ∈ l, RightV x.f0 x.f1 x.f2
theorem AllRight.size {l : List S27} (h : AllRight l) : ∀ x ∈ l, x.f1.size ≤ 2147483647 := fun x hx => by have := (h x hx).t60; omega
theorem cmp_ordered (down : Bool) : Ordered (cmpD down) where
  anti a b := (cmp_vers down).anti _ _
  lt_trans a b d h1 h2 := (cmp_vers down).lt_le h1 (Int.le_of_lt h2)
def PsEnd (down : Bool) (l : List S27) (w : World) (e : Ending) (w' : World) : Prop :=
  ∃ x L, e = .returned x ∧ L.Perm l ∧ (L.map to30).Pairwise (fun a b => ¬ cmpD down b a < 0) ∧ w'.ownsRow w.heap.size 27 3 x L.length (flat27 L) ∧ RowKit.Below w.heap.size w w'
theorem ps_end {down : Bool} {l : List S27} (hr : AllRight l) {w : World} {e : Ending} {w' : World} (h : SortedEnd down ((vds l hr.size).map VD.ver).toArray w e w') : PsEnd down l w e w' := by
  obtain ⟨x, d', rfl, hp, hso, ho, hb⟩ := h
  have hlen : (vds l hr.size).length = l.length := by simp [vds]
  have hsz : d'.size = ((vds l hr.size).map VD.ver).toArray.size := hp.1
  have hn : ((vds l hr.size).map VD.ver).toArray.size = l.length := by simp [hlen]
  have hpl := perm_list hp
  have hD : ((vds l hr.size).map VD.ver).map (fun a : VS => s27 a.1) = l := by
    refine List.ext_getElem (by simp [hlen]) fun i h1 h2 => ?_
    have h3 : RightV l[i].f0 l[i].f1 l[i].f2 := hr _ (List.getElem_mem h2)
    have e : (vds l hr.size)[i]'(by rw [hlen]; exact h2) = ⟨l[i].f0, l[i].f1, l[i].f2, hr.size _ (List.getElem_mem h2)⟩ := by simp [vds, List.getElem_pmap]
    rw [List.getElem_map, List.getElem_map, e]
    exact s27_ver h3
  have hmem : ∀ a ∈ d'.toList, verV (s27 a.1).f0 (s27 a.1).f1 (s27 a.1).f2 = a.1 := by
    intro a ha
    have h1 := hpl.subset ha
    have h2 : a ∈ (vds l hr.size).map VD.ver := by simpa using h1
    obtain ⟨y, hy, rfl⟩ := List.mem_map.1 h2
    obtain ⟨z, hz, rfl⟩ := List.mem_pmap.1 hy
    show verV (s27 (verV z.f0 z.f1 z.f2)).f0 (s27 (verV z.f0 z.f1 z.f2)).f1 (s27 (verV z.f0 z.f1 z.f2)).f2 = verV z.f0 z.f1 z.f2
    rw [s27_ver (hr z hz)]
  refine ⟨x, d'.toList.map fun a => s27 a.1, rfl, ?_, ?_, ?_, hb⟩
  · have := hpl.map (fun a : VS => s27 a.1)
    have e2 : ((vds l hr.size).map VD.ver).toArray.toList = (vds l hr.size).map VD.ver := by simp
    rw [e2, hD] at this
    exact this
  · have h1 := sorted_list hsz hso
    rw [List.pairwise_map, List.pairwise_map]
    refine h1.imp_of_mem fun {a b} ha hb h => ?_
    unfold ltV lessV at h
    show ¬ versC down (verV (s27 b.1).f0 (s27 b.1).f1 (s27 b.1).f2) (verV (s27 a.1).f0 (s27 a.1).f1 (s27 a.1).f2) < 0
    rw [hmem a ha, hmem b hb]
    exact of_decide_eq_false h
  · have e1 : flat27 (d'.toList.map fun a => s27 a.1) = d'.toList.flatMap fun a => (backV a.1).cells.toList := by
      unfold flat27
      rw [List.flatMap_map]
      congr 1
      funext a
      rw [back_cells]
    rw [e1, List.length_map, Array.length_toList, hsz]
    exact ho
theorem psort (down : Bool) (l : List S27) (hr : AllRight l) (hl : l.length < 50) (v : Value) (base : Nat) (w : World) (hv : Vars w) (ho : w.ownsRow base 27 3 v l.length (flat27 l)) :
    Calls Tryz.prog 37 #[v, .bool down, .bool false] w (PsEnd down l w) := by
  have hA := at27 hr.size ho
  have hlen : (vds l hr.size).length = l.length := by simp [vds]
  by_cases hne : l = []
  · subst hne
    obtain ⟨A, c, rfl, _⟩ := row27 rfl ho
    cases down
    · exact (sorted0_up A c w).mono fun e w' h => ps_end hr h
    · exact (sorted0_dn A c w).mono fun e w' h => ps_end hr h
  · have h0 : 0 < l.length := List.length_pos_iff.2 hne
    cases down
    · exact (sortedW_up (vds l hr.size) (by rw [hlen]; omega) v w hv hA).mono fun e w' h => ps_end hr h
    · exact (sortedW_dn (vds l hr.size) (by rw [hlen]; omega) v w hv hA).mono fun e w' h => ps_end hr h
theorem wpList_app_run {P : Program} {ops : Array Oper} {rest : List Oper} {o : Oper} {a : Act} {w : World} {Q : Exit → Act → World → Prop} {s x : Operand} {t : TypeId}
    (ho : o.op = .call { callee := .builtin .append, args := #[s, x], argTypes := #[t, t] }) {sv xv v' : Value} {w' : World} (hs : a.eval s = sv) (hx : a.eval x = xv)
    (hrun : (Builtin.append_ #[t, t] o.type #[sv, xv]).run P w = .ok v' w') (hw : Region.wanted o (yielded ops a.tmps) = true) (h : wpList P ops Q rest (a.put o.dst v') w') : wpList P ops Q (o :: rest) a w := by
  refine wpList_step fun K hK => ?_
  rw [if_pos hw]
  unfold Oper.wp execOp
  simp only [ho, resolve, invoke, builtin, Sem.run_bind, Sem.run_pure, Result.andThen_ok, List.map_toArray, List.map_cons, List.map_nil, hs, hx, hrun]
  exact hK _ _ h
theorem want_eq {down : Bool} {l L : List S27} {R : List S30} (hi : insAll (cmpD down) (l.map to30) [] = some R) (hp : L.Perm l) (hs : (L.map to30).Pairwise (fun a b => ¬ cmpD down b a < 0)) : L.map to30 = R := by
  obtain ⟨h1, h2⟩ := insAll_sorted (cmp_ordered down) (l.map to30) [] R List.Pairwise.nil hi
  rw [List.append_nil] at h2
  exact sorted_eq (cmp_ordered down) h1 hs ((hp.map to30).trans h2.symm)
end Go.Proofs.YtgoeiflddikihaaGreatDoor.Ver
end
section
namespace Go.Proofs.YtgoeiflddikihaaGreatDoor.Ver
set_option linter.unusedSimpArgs false
set_option linter.unusedVariables false
open Go.RowKit Go.Proofs.YtgoeiflddikihaaGreatDoor.Dig Go.Proofs.YtgoeiflddikihaaGreatDoor.PFnVersion Go.Proofs.YtgoeiflddikihaaGreatDoorW.PrintWords Go.Proofs.YtgoeiflddikihaaGreatDoor.Mem Go.Proofs.YtgoeiflddikihaaGreatDoor.Srt Go.Proofs.YtgoeiflddikihaaGreatDoor.Ord Go.Proofs.YtgoeiflddikihaaGreatDoor.Ins
def PsN (down : Bool) (l : List S27) (n : Nat) (w : World) (e : Ending) (w' : World) : Prop :=
  ∃ A c L, e = .returned (.slice A n c) ∧ L.length = n ∧ L.Perm l ∧ (L.map to30).Pairwise (fun a b => ¬ cmpD down b a < 0) ∧ Kd.C k27 w' A n L ∧ w'.ownsRow w.heap.size 27 3 (.slice A n c) n (flat27 L) ∧ Below w.heap.size w w'
theorem psN (down : Bool) (l : List S27) (n : Nat) (hn : l.length = n) (hr : AllRight l) (hl : n < 50) (v : Value) (base : Nat) (w : World) (hv : Vars w) (ho : w.ownsRow base 27 3 v n (flat27 l)) :
    Calls Tryz.prog 37 #[v, .bool down, .bool false] w (PsN down l n w) := by
  subst hn
  refine (psort down l hr hl v base w hv ho).mono ?_
  rintro e w' ⟨x, L, rfl, hp, hs, ho, hb⟩
  obtain ⟨A, c, rfl, hc, hk⟩ := row27 rfl ho
  have hlen := hp.length_eq
  rw [hlen] at hk ho ⊢
  exact ⟨A, c, L, rfl, hlen, hp, hs, hk, ho, hb⟩
theorem right_perm {l L : List S27} (h : AllRight l) (hp : L.Perm l) : AllRight L := fun x hx => h x (hp.subset hx)
theorem to30_inj : ∀ {a b : List S27}, a.map to30 = b.map to30 → a = b
  | [], [], _ => rfl
  | [], _ :: _, h => by cases h
  | _ :: _, [], h => by cases h
  | x :: a, y :: b, h => by
    rw [List.map_cons, List.map_cons] at h
    injection h with h1 h2
    obtain ⟨x0, x1, x2⟩ := x
    obtain ⟨y0, y1, y2⟩ := y
    unfold to30 at h1
    injection h1 with e0 e1 e2
    subst e0 e1 e2
    rw [to30_inj h2]
theorem eqA27 (d : Nat) (w : World) (x0 y0 : Int) (x1 y1 : ByteArray) (x2 y2 : ByteArray) :
    (Op.equalIn (d + 2) 27 (.agg #[.int .i64 x0, .string x1, .string x2]) (.agg #[.int .i64 y0, .string y1, .string y2])).run Tryz.prog w = .ok (x0 == y0 && (x1.toList == y1.toList && (x2.toList == y2.toList))) w := by
  refine eqA_of Tryz.underlying27 (by kernel_rfl) ?_
  refine eqf_cons (by rfl) (by go_simp; rfl) (by go_simp; rfl) (by go_simp) ?_
  refine eqf_cons (by rfl) (by go_simp; rfl) (by go_simp; rfl) (by go_simp) ?_
  exact eqf_last (by rfl) (by go_simp; rfl) (by go_simp; rfl) (by go_simp)
theorem at27n {w : World} {A : Option Addr} {n : Nat} {l : List S27} (h : Kd.C k27 w A n l) (k : Nat) (hk : k < n) :
    ∃ ad x, A = some ad ∧ l[k]? = some x ∧ w.cell? (ad.add (k * 3)) = some (.int .i64 x.f0) ∧ w.cell? ⟨(ad.add (k * 3)).block, (ad.add (k * 3)).off + 1, none⟩ = some (.string x.f1) ∧ w.cell? ⟨(ad.add (k * 3)).block, (ad.add (k * 3)).off + 2, none⟩ = some (.string x.f2) := by
  obtain ⟨ad, e, c0, c1, c2⟩ := at_T27 h (k : Int) (by omega) (by omega)
  have hl : k < l.length := by have := h.1; omega
  rw [rd27 l k hl] at c0 c1 c2
  rw [Int.toNat_natCast] at c0 c1 c2
  exact ⟨ad, l[k], e, List.getElem?_eq_getElem hl, c0, c1, c2⟩
theorem rev_next {l : List S27} {n k : Nat} (hn : l.length = n) (hk : k < n) {x : S27} (hx : l[n - 1 - k]? = some x) : flat27 (l.reverse.take k) ++ [.int .i64 x.f0, .string x.f1, .string x.f2] = flat27 (l.reverse.take (k + 1)) := by
  have h1 : k < l.reverse.length := by rw [List.length_reverse]; omega
  rw [List.take_succ_eq_append_getElem h1]
  obtain ⟨h2, h3⟩ := List.getElem?_eq_some_iff.1 hx
  have : l.reverse[k] = x := by rw [List.getElem_reverse, ← h3]; congr 1; omega
  rw [this]
  unfold flat27
  rw [List.flatMap_append]
  rfl
set_option maxRecDepth 20000 in
set_option maxHeartbeats 4000000 in
theorem again_law (l : List S27) (b : Bool) (w : World) (A : Option Addr) (c : Nat) (hC : Kd.C k27 w A l.length l) (hcap : l.length ≤ c) {G : Prop} (_ : G) (hv : Vars w) :
    Calls Tryz.prog 8 #[.slice A l.length c, .bool b] w fun e w' => e = .returned (.bool true) ∧ Below w.heap.size w w' := by
  have HB := Aside0.mk (Below.refl w.heap.size w)
  have HA := Lib.hid (fun W (hb : Below w.heap.size w W) => awake W (Vars.below (w := w) hv hb))
  have HV0 := Lib.hid (fun W (hb : Below w.heap.size w W) => Vars.below (w := w) hv hb)
  have HC := Lib.hid (fun W (hb : Below w.heap.size w W) => Kd.C_below hC hb)
  obtain ⟨b0, k0, hf0, hfit⟩ := fits_f l
  have HZ := Lib.hid (fun W (hb : Below w.heap.size w W) => laws_zzFits3.calls k0 A c l b0 W (Kd.C_below hC hb) hcap hf0)
  cases b0 with
  | false =>
    clear hC hcap hf0 hfit hv
    go_enter Tryz.func8, Tryz.ntmps8
    go_wp2_with (go_at_call 23; ((with_reducible refine (HZ.out _ (by repeat (first | exact HB.out | apply below_alloc | apply pw_below_drewN | apply pw_below_drew))).mono ?_); rintro e w1 ⟨rfl, hb⟩; have HB1 := Aside0.mk (below_trans HB.out hb); clear hb HB; have HB := HB1; clear HB1))
    go_ret
    exact ⟨rfl, HB.out⟩
  | true =>
    obtain ⟨hl, hsz⟩ := hfit rfl
    obtain ⟨b1, k1, hf1, hri⟩ := list_f l (by omega) (fun x hx => by have := hsz x hx; omega)
    cases b1 with
    | false =>
      have HL := Lib.hid (fun W (hb : Below w.heap.size w W) => laws_verList.calls k1 A c l _ _ W (Kd.C_below hC hb) hcap hf1)
      clear hC hcap hf0 hfit hv hf1 hri hl hsz
      go_enter Tryz.func8, Tryz.ntmps8
      go_wp2_with (first | (go_at_call 23; ((with_reducible refine (HZ.out _ (by repeat (first | exact HB.out | apply below_alloc | apply pw_below_drewN | apply pw_below_drew))).mono ?_); rintro e w1 ⟨rfl, hb⟩; have HB1 := Aside0.mk (below_trans HB.out hb); clear hb HB; have HB := HB1; clear HB1)) | (go_at_call 41; ((with_reducible refine (HL.out _ (by repeat (first | exact HB.out | apply below_alloc | apply pw_below_drewN | apply pw_below_drew))).mono ?_); rintro e w2 ⟨v0, rfl, hR, hb⟩; obtain ⟨X, hV, hM⟩ := vok_of hR hb; have HSV := Lib.hid (sv_any _ v0 X b false w2 (by simp) hV hM.has (by simp)); have HB2 := Aside0.mk (below_trans HB.out hb); clear hR hb hV hM HB; have HB := HB2; clear HB2)) | (go_at_call 42; ((with_reducible refine HSV.out.mono ?_); rintro e w3 ⟨v3, X3, rfl, _, hM3⟩; have HB3 := Aside0.mk (below_trans HB.out hM3.bel); clear hM3 HB HSV; have HB := HB3; clear HB3)) | (go_at_call 25; ((with_reducible refine (HA.out _ (by repeat (first | exact HB.out | apply below_alloc | apply pw_below_drewN | apply pw_below_drew))).mono ?_); rintro e w4 ⟨rfl, hb⟩; have HB4 := Aside0.mk (below_trans HB.out hb); clear hb HB; have HB := HB4; clear HB4)))
      go_ret
      exact ⟨rfl, HB.out⟩
    | true =>
      obtain ⟨hl20, har⟩ := hri rfl
      have HAR := Lib.hid har
      have HRG := Lib.hid (show ∀ x ∈ l.map to30, (0 ≤ x.f0 ∧ x.f0 ≤ 3) ∧ x.f1.size ≤ 100000 from fun x hx => by
        obtain ⟨y, hy, rfl⟩ := List.mem_map.1 hx
        have h := har y hy
        exact ⟨⟨h.k0, h.k3⟩, Nat.le_trans h.t60 (by decide)⟩)
      have HL := Lib.hid (fun W (hb : Below w.heap.size w W) => laws_verList.calls k1 A c l (l.map to30) true W (Kd.C_below hC hb) hcap hf1)
      have HLE := Lib.hid (show (l.map to30).length ≤ 100 by rw [List.length_map]; omega)
      have HFL := Lib.hid (show (l.map to30).filter (keepD false) = l.map to30 from List.filter_eq_self.2 (fun x _ => rfl))
      have HAP := Lib.hid (fun W (hb : Below w.heap.size w W) => app27 A c l W (HC.out W hb) (by omega))
      obtain ⟨n, hN⟩ : ∃ n, l.length = n := ⟨_, rfl⟩
      have hLL : n < 50 := by omega
      clear hC hcap hf0 hfit hv hf1 hri hl hsz har hl20
      rw [hN] at HC HZ HL HAP ⊢
      have HN := Lib.hid hN
      clear hN
      cases hins : insAll (cmpD b) (l.map to30) [] with
      | none =>
        have HI := Lib.hid hins
        clear hins
        go_enter Tryz.func8, Tryz.ntmps8
        go_wp2_with (first | (go_at_call 23; ((with_reducible refine (HZ.out _ (by repeat (first | exact HB.out | apply below_alloc | apply pw_below_drewN | apply pw_below_drew))).mono ?_); rintro e w1 ⟨rfl, hb⟩; have HB1 := Aside0.mk (below_trans HB.out hb); clear hb HB; have HB := HB1; clear HB1)) | (go_at_call 41; ((with_reducible refine (HL.out _ (by repeat (first | exact HB.out | apply below_alloc | apply pw_below_drewN | apply pw_below_drew))).mono ?_); rintro e w2 ⟨v0, rfl, hR, hb⟩; obtain ⟨X, hV, hM⟩ := vok_of hR hb; have HSV := Lib.hid (sv_any _ v0 X b false w2 (by exact HLE.out) hV hM.has (by exact HRG.out)); have HB2 := Aside0.mk (below_trans HB.out hb); clear hR hb hV hM HB; have HB := HB2; clear HB2)) | (go_at_call 42; ((with_reducible refine HSV.out.mono ?_); intro e w3 hsv; rw [HFL.out, HI.out] at hsv; obtain ⟨rfl, hb⟩ := hsv; have HB3 := Aside0.mk (below_trans HB.out hb); clear hb HB HSV; have HB := HB3; clear HB3)) | (go_at_call 25; ((with_reducible refine (HA.out _ (by repeat (first | exact HB.out | apply below_alloc | apply pw_below_drewN | apply pw_below_drew))).mono ?_); rintro e w4 ⟨rfl, hb⟩; have HB4 := Aside0.mk (below_trans HB.out hb); clear hb HB; have HB := HB4; clear HB4)))
        go_ret
        exact ⟨rfl, HB.out⟩
      | some R =>
        have HI := Lib.hid hins
        clear hins
        go_enter Tryz.func8, Tryz.ntmps8
        go_wp2_with (first | (at_builtin; clear HS0; obtain ⟨v5, w5, hap, ho, hb⟩ := HAP.out _ HB.out; (refine wpList_app_run rfl rfl rfl hap (by first | rfl | (simp [Region.wanted, yielded]; done)) ?_); have HB5 := Aside0.mk (below_trans HB.out hb); have HPS1 := Lib.hid (psN b l n HN.out HAR.out hLL v5 _ w5 (HV0.out w5 HB5.out) ho); clear HB hap ho hb; have HB := HB5; clear HB5) | (at_builtin; clear HS1; obtain ⟨v7, w7, hap, ho, hb⟩ := HAP.out _ HB.out; (refine wpList_app_run rfl rfl rfl hap (by first | rfl | (simp [Region.wanted, yielded]; done)) ?_); have HB5 := Aside0.mk (below_trans HB.out hb); have HPS2 := Lib.hid (psN (!b) l n HN.out HAR.out hLL v7 _ w7 (HV0.out w7 HB5.out) ho); have HK1x := Aside0.mk (Kd.C_below HK1.out hb); clear HK1; have HK1 := HK1x; clear HK1x; clear HB hap ho hb; have HB := HB5; clear HB5) | (go_at_call 23; ((with_reducible refine (HZ.out _ (by repeat (first | exact HB.out | apply below_alloc | apply pw_below_drewN | apply pw_below_drew))).mono ?_); rintro e w1 ⟨rfl, hb⟩; have HB1 := Aside0.mk (below_trans HB.out hb); clear hb HB; have HB := HB1; clear HB1)) | (go_at_call 41; ((with_reducible refine (HL.out _ (by repeat (first | exact HB.out | apply below_alloc | apply pw_below_drewN | apply pw_below_drew))).mono ?_); rintro e w2 ⟨v0, rfl, hR, hb⟩; obtain ⟨X, hV, hM⟩ := vok_of hR hb; have HSV := Lib.hid (sv_any _ v0 X b false w2 (by exact HLE.out) hV hM.has (by exact HRG.out)); have HB2 := Aside0.mk (below_trans HB.out hb); clear hR hb hV hM HB; have HB := HB2; clear HB2)) | (go_at_call 42; ((with_reducible refine HSV.out.mono ?_); intro e w3 hsv; rw [HFL.out, HI.out] at hsv; obtain ⟨v3, X3, rfl, hV3, hM3⟩ := hsv; have HB3 := Aside0.mk (below_trans HB.out hM3.bel); clear hV3 hM3 HB HSV; have HB := HB3; clear HB3; have HS0 := True.intro)) | (go_at_call 37; ((with_reducible refine HPS1.out.mono ?_); rintro e w6 ⟨A1, c1, L, rfl, hLn, hp, hs, hk, ho, hb⟩; obtain rfl := want_eq HI.out hp hs; have HB6 := Aside0.mk (below_trans HB.out hb); have HK1 := Aside0.mk hk; have HS1 := True.intro; clear hp hs ho hb hk hLn HB HPS1; have HB := HB6; clear HB6)) | (go_at_call 37; ((with_reducible refine HPS2.out.mono ?_); rintro e w8 ⟨A2, c2, L2, rfl, hLn, hp, hs, hk, ho, hb⟩; have HB6 := Aside0.mk (below_trans HB.out hb); have HPP := Lib.hid hp; have HPS3 := Lib.hid (psN b L2 n hLn (right_perm HAR.out hp) hLL _ _ w8 (HV0.out w8 HB6.out) ho); have HK1x := Aside0.mk (Kd.C_below HK1.out hb); clear HK1; have HK1 := HK1x; clear HK1x; clear hp hs ho hb hk hLn HB HPS2; have HB := HB6; clear HB6)) | (go_at_call 37; ((with_reducible refine HPS3.out.mono ?_); rintro e w9 ⟨A3, c3, L3, rfl, hLn, hp, hs, hk, ho, hb⟩; have hee := to30_inj (want_eq HI.out (hp.trans HPP.out) hs).symm; subst hee; have HB6 := Aside0.mk (below_trans HB.out hb); have HK1x := Aside0.mk (Kd.C_below HK1.out hb); clear HK1; have HK1 := HK1x; clear HK1x; have HK2 := Aside0.mk hk; refine Hid.out ?_; clear hp hs ho hb hk hLn HB HPS3 HPP; have HB := HB6; clear HB6)))
        refine Lib.hid ?_
        go_wp2_with fail
        have HW0 := Aside0.mk (Below.refl w9.heap.size w9)
        obtain ⟨iv, hvi, hvz0, hvz1, hvz2⟩ := info_parts infoV
        go_loopw [11, 12] (fun v11 v12 wr => ∃ (k : Nat) (i : Int), v12 = .int .i64 i ∧ Hid (i = (n : Int) - 1 - (k : Int)) ∧ k ≤ n ∧ Aside0 (wr.ownsRow w9.heap.size 27 3 v11 k (flat27 (l.reverse.take k))) ∧ Aside0 (Below w9.heap.size w9 wr)) (fun _ v12 _ => (intOf v12 + 1).toNat)
        case atStart => exact ⟨0, _, rfl, Lib.hid (by first | (rw [wrap_in (by omega) (by omega)]; omega) | omega | (simp; omega)), Nat.zero_le _, ⟨World.ownsRow_nil _ _ _ _⟩, HW0⟩
        case round =>
          obtain ⟨k, i, rfl, hi, hk, HO, HW⟩ := hrel
          by_cases hlt : 0 ≤ i
          · have d1 : decide (0 ≤ i) = true := decide_eq_true hlt
            obtain ⟨j, rfl⟩ : ∃ j : Nat, i = (j : Int) := ⟨i.toNat, by omega⟩
            have hj : j = n - 1 - k := by have := hi.out; omega
            have hkn : k < n := by have := hi.out; omega
            have hjn : j < n := by omega
            obtain ⟨ad, x, rfl, hx, x0, x1, x2⟩ := at27n (HC.out wr (below_trans HB.out HW.out)) j hjn
            have HY := Lib.hid (rev_next HN.out hkn (hj ▸ hx))
            have e1 : decide (j < n) = true := decide_eq_true hjn
            have HJ := Lib.hid hj
            clear hx hj
            generalize x.f0 = xa at *
            generalize x.f1 = xt at *
            generalize x.f2 = xr at *
            clear x
            go_wp2_with (at_builtin; (refine wpList_append_own _ rfl _ _ 23 rfl w9.heap.size 27 iv (.agg #[.int .i64 0, .string ⟨#[]⟩, .string ⟨#[]⟩]) 3 40 Tryz.underlying23 hvi hvz0 hvz1 hvz2 rfl (by decide) _ k _ rfl (HO.out.alloc _) ⟨wr.heap.size, 0, none⟩ 1 1 [.int .i64 xa, .string xt, .string xr] rfl rfl ?c1 ?c2 ?c3 ?c4 ?c5 ?_))
            case c1 => exact cells_new _ #[.int .i64 xa, .string xt, .string xr] _
            case c2 => intro u hu; simp at hu; rcases hu with rfl | rfl | rfl <;> rfl
            case c3 => unfold maxLen; omega
            case c4 => omega
            case c5 => exact (below_alloc HW.out _).size
            intro v' w10 ho10 hg10 _
            have HO2 := Aside0.mk (show w10.ownsRow w9.heap.size 27 3 v' (k + 1) (flat27 (l.reverse.take (k + 1))) by rw [← HY.out]; exact ho10)
            have HW2 := Aside0.mk (pw_below_grown (below_alloc HW.out (.cells #[.int .i64 xa, .string xt, .string xr] 27)) _ (below_alloc HW.out _).size hg10 (fun kk hk => (HO.out.lt kk hk).1))
            clear ho10 hg10
            go_wp2_with fail
            go_roundw
            case rel => exact ⟨k + 1, _, rfl, Lib.hid (by have := HJ.out; first | (rw [wrap_in (by omega) (by omega)]; omega) | omega | (simp; omega)), by omega, HO2, HW2⟩
            case measure => first | (simp [intOf]; done) | (simp [intOf]; omega) | (rw [wrap_in (by omega) (by omega)]; simp [intOf]; omega)
          · have d1 : decide (0 ≤ i) = false := decide_eq_false hlt
            obtain rfl : k = n := by have := hi.out; omega
            have hrl : l.reverse.length = k := by rw [List.length_reverse]; exact HN.out
            have HPS4 := Lib.hid (psN b l.reverse k hrl (right_perm HAR.out l.reverse_perm) hLL _ _ wr (HV0.out wr (below_trans HB.out HW.out)) (by have h := HO.out; rwa [List.take_of_length_le (by omega)] at h))
            have HB9 := Aside0.mk (below_trans HB.out HW.out)
            have HK1y := Aside0.mk (Kd.C_below HK1.out HW.out)
            have HK2y := Aside0.mk (Kd.C_below HK2.out HW.out)
            clear HB HK1 HK2 HO HW hrl hi hlt
            have HB := HB9
            have HK1 := HK1y
            have HK2 := HK2y
            clear HB9 HK1y HK2y
            go_wp2_with (go_at_call 37; ((with_reducible refine HPS4.out.mono ?_); rintro e w11 ⟨A4, c4, L4, rfl, hLn, hp, hs, hk, ho, hb⟩; have hee := to30_inj (want_eq HI.out (hp.trans l.reverse_perm) hs).symm; subst hee; have HB6 := Aside0.mk (below_trans HB.out hb); have HK1x := Aside0.mk (Kd.C_below HK1.out hb); clear HK1; have HK1 := HK1x; clear HK1x; have HK2x := Aside0.mk (Kd.C_below HK2.out hb); clear HK2; have HK2 := HK2x; clear HK2x; have HK4 := Aside0.mk hk; refine Hid.out ?_; clear hp hs ho hb hk hLn HB HPS4; have HB := HB6; clear HB6))
            refine Lib.hid ?_
            go_wp2_with fail
            have HX0 := Aside0.mk (Below.refl w11.heap.size w11)
            go_loopw [85] (fun v85 wr => ∃ q : Nat, v85 = .int .i64 q ∧ q ≤ k ∧ Aside0 (Below w11.heap.size w11 wr)) (fun v85 _ => k - (intOf v85).toNat)
            case atStart => exact ⟨0, rfl, by omega, HX0⟩
            case round =>
              obtain ⟨q, rfl, hq, HX⟩ := hrel
              by_cases hlt : q < k
              · have e1 : decide (q < k) = true := decide_eq_true hlt
                obtain ⟨ad1, x, rfl, hx, x0, x1, x2⟩ := at27n (Kd.C_below HK1.out HX.out) q hlt
                obtain ⟨ad2, y, rfl, hy, y0, y1, y2⟩ := at27n (Kd.C_below HK2.out HX.out) q hlt
                obtain ⟨ad4, z, rfl, hz, z0, z1, z2⟩ := at27n (Kd.C_below HK4.out HX.out) q hlt
                obtain rfl : x = y := Option.some.inj (hx.symm.trans hy)
                obtain rfl : x = z := Option.some.inj (hx.symm.trans hz)
                clear hx hy hz
                generalize x.f0 = xa at *
                generalize x.f1 = xt at *
                generalize x.f2 = xr at *
                have hEQ := eqA27
                go_wp2_with fail
                repeat (go_quiet (fail); try go_wp2_with fail)
                go_roundw
                case rel => exact ⟨q + 1, by go_num, by omega, ⟨by repeat (first | exact HX.out | apply below_alloc | apply pw_below_drewN | apply below_drew1)⟩⟩
                case measure => simp [intOf]; omega
              · have e1 : decide (q < k) = false := decide_eq_false hlt
                obtain rfl : q = k := by omega
                clear hlt hq
                have HB9 := Aside0.mk (below_trans HB.out HX.out)
                clear HB HX HK1 HK2 HK4
                have HB := HB9
                clear HB9
                go_wp2_with (go_at_call 25; ((with_reducible refine (HA.out _ (by repeat (first | exact HB.out | apply below_alloc | apply pw_below_drewN | apply pw_below_drew))).mono ?_); rintro e w4 ⟨rfl, hb⟩; have HB4 := Aside0.mk (below_trans HB.out hb); clear hb HB; have HB := HB4; clear HB4))
                go_ret
                exact ⟨rfl, HB.out⟩
end Go.Proofs.YtgoeiflddikihaaGreatDoor.Ver
end
