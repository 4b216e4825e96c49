/- Merged by program out of: SortQ, SortR, SortS, SortV. -/
import Derived.Test.YtgoeiflddikihaaGreatDoorCpM15
import Derived.Test.YtgoeiflddikihaaGreatDoorCpM12
import Derived.Test.YtgoeiflddikihaaGreatDoorCpM35
import Derived.Test.YtgoeiflddikihaaGreatDoorCpM43
import Derived.Test.YtgoeiflddikihaaGreatDoorCpM4
import Derived.Test.YtgoeiflddikihaaGreatDoorCpM39
section
namespace Go.Proofs.YtgoeiflddikihaaGreatDoor.Ver
set_option linter.unusedSimpArgs false
set_option linter.unusedVariables false
open Go.RowKit Go.Proofs.YtgoeiflddikihaaGreatDoor.PFnVersion Go.Proofs.YtgoeiflddikihaaGreatDoorW.PrintWords Go.Proofs.YtgoeiflddikihaaGreatDoor.Mem Go.Proofs.YtgoeiflddikihaaGreatDoor.Srt Go.Proofs.YtgoeiflddikihaaGreatDoor.Ord Go.Proofs.YtgoeiflddikihaaGreatDoor.Ins Go.Sort
def c27 (x : S27) : List Value := [.int .i64 x.f0, .string x.f1, .string x.f2]
def flat27 (l : List S27) : List Value := l.flatMap c27
theorem flat27_len (l : List S27) : (flat27 l).length = l.length * 3 := by
  induction l with
  | nil => rfl
  | cons x l ih => show (c27 x ++ flat27 l).length = _; rw [List.length_append, ih, List.length_cons]; show 3 + _ = _; omega
theorem flat27_to (l : List S27) : flat27 l = flat3 (l.map to30) := by
  induction l with
  | nil => rfl
  | cons x l ih => show c27 x ++ flat27 l = c3 (to30 x) ++ flat3 (l.map to30); rw [ih]; rfl
theorem flat27_one : ∀ l : List S27, ∀ u ∈ flat27 l, u.oneCell' = true := by
  intro l u hu
  unfold flat27 at hu
  obtain ⟨x, _, hx⟩ := List.mem_flatMap.1 hu
  simp [c27] at hx
  rcases hx with rfl | rfl | rfl <;> rfl
theorem reps27 (w : World) (base : Nat) (ok : Nat → Prop) : ∀ l : List S27, Reps (k27.M w base ok) 3 l (flat27 l)
  | [] => Reps.none _ _
  | x :: l => Reps.c3 (k27_mkM w base ok x) (reps27 w base ok l)
theorem reps_eq {α : Type} {R : α → List Value → Prop} {f : α → List Value} (hf : ∀ x cs, R x cs → cs = f x) : ∀ (l : List α) (cs : List Value), Reps R 3 l cs → cs = l.flatMap f
  | [], cs, h => by
    have := h.1
    simp at this
    rw [this]; rfl
  | x :: l, cs, h => by
    have h0 := hf _ _ (h.2 0 x rfl)
    have e := reps_eq hf l (cs.drop 3) ⟨by rw [List.length_drop, h.1, List.length_cons]; omega, fun j p hj => by
      have := h.2 (j + 1) p (by simpa using hj)
      rw [List.drop_drop]
      rwa [show (j + 1) * 3 = 3 + j * 3 by omega] at this⟩
    rw [List.flatMap_cons, ← e, ← h0]
    simp
theorem row27 {w : World} {base n : Nat} {v : Value} {l : List S27} (hn : l.length = n) (h : w.ownsRow base 27 3 v n (flat27 l)) : ∃ A c, v = .slice A l.length c ∧ l.length ≤ c ∧ Kd.C k27 w A l.length l := by
  subst hn
  exact Kd.R_reads (e := 27) (base := base) (ok := fun _ => True) ⟨fun _ _ => trivial, _, h, reps27 w base _ l⟩
theorem vok_c {out : List S30} {v : Value} {X L : List Blk} {w0 w : World} (h : VOk out v X) (H : Blks w0 w L) (hs : ∀ x ∈ X, x ∈ L) : ∃ A c, v = .slice A out.length c ∧ out.length ≤ c ∧ Kd.C k30 w A out.length out := by
  by_cases hne : out = []
  · obtain ⟨A, c, e, h1, _⟩ := h.val
    subst hne
    exact ⟨A, c, e, h1, rfl, by simp, fun h => by simp at h⟩
  · obtain ⟨g, cap, e, hc⟩ := h.elem H hs hne
    obtain ⟨A, c, e2, h1, h2⟩ := h.val
    rw [e] at e2
    injection e2 with e3 e4 e5
    subst e5
    refine ⟨_, cap, e, h1, rfl, by unfold maxLen at h2; omega, fun _ => ⟨_, rfl, fun j p hj => ?_⟩⟩
    obtain ⟨hj', rfl⟩ := List.getElem?_eq_some_iff.1 hj
    obtain ⟨c0, c1, c2⟩ := hc j hj'
    refine ⟨_, rfl, k30_mk w out[j], fun i u hu => ?_⟩
    match i, hu with
    | 0, hu => simp at hu; subst hu; rw [add_plain]; exact c0
    | 1, hu => simp at hu; subst hu; rw [add_plain]; exact c1
    | 2, hu => simp at hu; subst hu; rw [add_plain]; exact c2
    | i + 3, hu => simp at hu
theorem vok_of {w0 w : World} {ok : Nat → Prop} {v : Value} {out : List S30} (h : Kd.R k30 30 w w0.heap.size ok v out) (hb : Below w0.heap.size w0 w) : ∃ X, VOk out v X ∧ Blks w0 w X := by
  obtain ⟨_, inner, ho, hr⟩ := h
  have e : inner = flat3 out := reps_eq (fun x cs hx => by rw [k30_openM hx]; rfl) _ _ hr
  subst e
  rcases ho.2 with ⟨rfl, h0⟩ | ⟨g, cap, cur, rfl, hg, hc, h1, h2, h3, ht⟩
  · exact ⟨[], Or.inl ⟨rfl, List.length_eq_zero_iff.1 h0, rfl⟩, hb, by simp, by simp, by simp⟩
  · have hd : Kd.sz k30 = 3 := rfl
    have e1 : cur.toList = flat3 out ++ cur.toList.drop (out.length * 3) := by rw [← ht, hd, List.take_append_drop]
    refine ⟨[(g, flat3 out ++ cur.toList.drop (out.length * 3), 30)], Or.inr ⟨g, cap, _, rfl, h1, h2, rfl⟩, hb, ?_, ?_, by simp⟩
    · intro x hx
      obtain rfl := List.mem_singleton.1 hx
      show w.heap[g]? = some (.cells (flat3 out ++ cur.toList.drop (out.length * 3)).toArray _ _)
      rw [← e1]; simpa using hc
    · intro x hx
      obtain rfl := List.mem_singleton.1 hx
      exact hg
theorem nil27 (A : Option Addr) (c : Nat) (w : World) : (Builtin.append_ #[23, 23] 23 #[.slice none 0 0, .slice A 0 c]).run Tryz.prog w = .ok (.slice none 0 0) w := by
  cases A <;> kernel_rfl
theorem app27 (A : Option Addr) (c : Nat) (l : List S27) (w : World) (h : Kd.C k27 w A l.length l) (hl : l.length ≤ 1000000) :
    ∃ v' w', (Builtin.append_ #[23, 23] 23 #[.slice none 0 0, .slice A l.length c]).run Tryz.prog w = .ok v' w' ∧ w'.ownsRow w.heap.size 27 3 v' l.length (flat27 l) ∧ RowKit.Below w.heap.size w w' := by
  by_cases hne : l.length = 0
  · obtain rfl := List.length_eq_zero_iff.1 hne
    exact ⟨_, _, nil27 A c w, World.ownsRow_nil _ _ _ _, RowKit.Below.refl _ _⟩
  · obtain ⟨ad, rfl, _⟩ := h.2.2 (by omega)
    obtain ⟨inner, hr, hc⟩ := ReadsRow.inner_ h
    have e : inner = flat27 l := reps_eq (fun x cs hx => k27_open hx) _ _ hr
    subst e
    obtain ⟨i, hi, hz0, hz1, hz2⟩ := info_parts infoV
    obtain ⟨v', w', h1, h2, h3, _⟩ := run_append_own (P := Tryz.prog) w w.heap.size 23 23 27 i _ 3 40 Tryz.underlying23 hi hz0 hz1 hz2 rfl (by decide) (.slice none 0 0) 0 [] (World.ownsRow_nil _ _ _ _)
      ad l.length c (flat27 l) (flat27_len l) hc (flat27_one l) (by unfold maxLen; omega) (by omega) (Nat.le_refl _)
    rw [Nat.zero_add] at h2
    exact ⟨v', w', h1, h2, pw_below_grown (RowKit.Below.refl _ _) none (Nat.le_refl _) h3 (fun k hk => by cases hk)⟩
theorem to_flat (l : List S27) (j : Nat) (h : j < l.length) : (flat27 l)[j * 3]? = some (.int .i64 l[j].f0) ∧ (flat27 l)[j * 3 + 1]? = some (.string l[j].f1) ∧ (flat27 l)[j * 3 + 2]? = some (.string l[j].f2) := by
  have e := flat27_to l
  have hj : j < (l.map to30).length := by rw [List.length_map]; exact h
  have := flat3_at (l.map to30) j hj
  rw [List.getElem_map] at this
  rw [e]; exact this
def vds (l : List S27) (hr : ∀ x ∈ l, x.f1.size ≤ 2147483647) : List VD := l.pmap (fun x h => ⟨x.f0, x.f1, x.f2, h⟩) hr
theorem at27 {w : World} {base : Nat} {v : Value} {l : List S27} (hr : ∀ x ∈ l, x.f1.size ≤ 2147483647) (h : w.ownsRow base 27 3 v l.length (flat27 l)) : AtV w v (vds l hr) := by
  have hlen : (vds l hr).length = l.length := by simp [vds]
  by_cases hne : l.length = 0
  · obtain ⟨A, c, e, _⟩ := row27 rfl h
    exact ⟨A, c, by rw [hlen]; exact e, fun h => by rw [hlen] at h; omega⟩
  · obtain ⟨g, cap, cells, rest, rfl, _, hc, hl, _⟩ := row_block h (by omega)
    refine ⟨_, cap, by rw [hlen], fun _ => ⟨g, 0, rfl, fun i hi => ?_⟩⟩
    have hi' : i < l.length := by rw [← hlen]; exact hi
    have e : (vds l hr)[i] = ⟨l[i].f0, l[i].f1, l[i].f2, hr _ (List.getElem_mem hi')⟩ := by simp [vds, List.getElem_pmap]
    rw [e]
    have hf := to_flat l i hi'
    have key : ∀ j u, (flat27 l)[j]? = some u → w.cell? ⟨g, j, none⟩ = some u := by
      intro j u hu
      rw [cell_of_row w g j _ _ (0, 0) hc, ← Array.getElem?_toList, hl]
      rw [List.getElem?_append_left (List.getElem?_eq_some_iff.1 hu).1]; exact hu
    rw [Nat.zero_add]
    exact ⟨key _ _ hf.1, key _ _ hf.2.1, key _ _ hf.2.2⟩
end Go.Proofs.YtgoeiflddikihaaGreatDoor.Ver
end
section
namespace Go.Proofs.YtgoeiflddikihaaGreatDoor.Ver
set_option linter.unusedSimpArgs false
set_option linter.unusedVariables false
open Go.RowKit Go.Proofs.YtgoeiflddikihaaGreatDoor.Dig Go.Proofs.YtgoeiflddikihaaGreatDoor.PFnVersion Go.Proofs.YtgoeiflddikihaaGreatDoorW.PrintWords Go.Proofs.YtgoeiflddikihaaGreatDoor.Mem Go.Proofs.YtgoeiflddikihaaGreatDoor.Srt Go.Proofs.YtgoeiflddikihaaGreatDoor.Ord Go.Proofs.YtgoeiflddikihaaGreatDoor.Ins Go.Sort
def s27 : Vers → S27
  | .rev s => ⟨0, s, ⟨#[]⟩⟩
  | .un u => ⟨u.kind, u.word, ⟨#[]⟩⟩
  | .pair u r => ⟨u.kind, u.word, r⟩
theorem back_cells (v : Vers) : (backV v).cells.toList = c27 (s27 v) := by cases v <;> rfl
theorem newV_word {t : ByteArray} (ht : t.size ≤ 2147483647) : (newV t).word = t ∧ (newV t).kind = 3 := by
  unfold newV
  cases h : readV t with
  | none => exact ⟨rfl, rfl⟩
  | some p => exact ⟨(readV_ok' ht h).2, rfl⟩
theorem s27_ver {k : Int} {t r : ByteArray} (h : RightV k t r) : s27 (verV k t r) = ⟨k, t, r⟩ := by
  have ht : t.size ≤ 2147483647 := by have := h.t60; omega
  obtain ⟨w1, w2⟩ := newV_word ht
  have h0 := h.k0
  have h3 := h.k3
  have hk : k = 0 ∨ k = 1 ∨ k = 2 ∨ k = 3 := by omega
  rcases hk with rfl | rfl | rfl | rfl
  · obtain rfl := h.rk rfl
    rfl
  all_goals
    unfold verV
    by_cases hr : r = ⟨#[]⟩
    · subst hr
      first | (simp [unpV, s27, w1, w2]; done) | simp [unpV, s27, Unp.kind, Unp.word]
    · first | (simp [unpV, hr, s27, w1, w2]; done) | simp [unpV, hr, s27, Unp.kind, Unp.word]
abbrev AllRight (l : List S27) : Prop := ∀ x ∈ l, RightV x.f0 x.f1 x.f2
theorem AllRight.size {l : List S27} (h : AllRight l) : ∀ x ∈ l, x.f1.size ≤ 2147483647 := fun x hx => by have := (h x hx).t60; omega
theorem cmp_ordered (down : Bool) : Ordered (cmpD down) where
  anti a b := (cmp_vers down).anti _ _
  lt_trans a b d h1 h2 := (cmp_vers down).lt_le h1 (Int.le_of_lt h2)
def PsEnd (down : Bool) (l : List S27) (w : World) (e : Ending) (w' : World) : Prop :=
  ∃ x L, e = .returned x ∧ L.Perm l ∧ (L.map to30).Pairwise (fun a b => ¬ cmpD down b a < 0) ∧ w'.ownsRow w.heap.size 27 3 x L.length (flat27 L) ∧ RowKit.Below w.heap.size w w'
theorem wpList_app_run {P : Program} {ops : Array Oper} {rest : List Oper} {o : Oper} {a : Act} {w : World} {Q : Exit → Act → World → Prop} {s x : Operand} {t : TypeId}
    (ho : o.op = .call { callee := .builtin .append, args := #[s, x], argTypes := #[t, t] }) {sv xv v' : Value} {w' : World} (hs : a.eval s = sv) (hx : a.eval x = xv)
    (hrun : (Builtin.append_ #[t, t] o.type #[sv, xv]).run P w = .ok v' w') (hw : Region.wanted o (yielded ops a.tmps) = true) (h : wpList P ops Q rest (a.put o.dst v') w') : wpList P ops Q (o :: rest) a w := by
  refine wpList_step fun K hK => ?_
  rw [if_pos hw]
  unfold Oper.wp execOp
  simp only [ho, resolve, invoke, builtin, Sem.run_bind, Sem.run_pure, Result.andThen_ok, List.map_toArray, List.map_cons, List.map_nil, hs, hx, hrun]
  exact hK _ _ h
theorem want_eq {down : Bool} {l L : List S27} {R : List S30} (hi : insAll (cmpD down) (l.map to30) [] = some R) (hp : L.Perm l) (hs : (L.map to30).Pairwise (fun a b => ¬ cmpD down b a < 0)) : L.map to30 = R := by
  obtain ⟨h1, h2⟩ := insAll_sorted (cmp_ordered down) (l.map to30) [] R List.Pairwise.nil hi
  rw [List.append_nil] at h2
  exact sorted_eq (cmp_ordered down) h1 hs ((hp.map to30).trans h2.symm)
end Go.Proofs.YtgoeiflddikihaaGreatDoor.Ver
end
section
namespace Go.Proofs.YtgoeiflddikihaaGreatDoor.Ver
set_option linter.unusedSimpArgs false
set_option linter.unusedVariables false
open Go.RowKit Go.Proofs.YtgoeiflddikihaaGreatDoor.Dig Go.Proofs.YtgoeiflddikihaaGreatDoor.PFnVersion Go.Proofs.YtgoeiflddikihaaGreatDoorW.PrintWords Go.Proofs.YtgoeiflddikihaaGreatDoor.Mem Go.Proofs.YtgoeiflddikihaaGreatDoor.Srt Go.Proofs.YtgoeiflddikihaaGreatDoor.Ord Go.Proofs.YtgoeiflddikihaaGreatDoor.Ins Go.Sort
def keepQ (x : S27) : Bool := keepD true (to30 x)
theorem isP_ver {k : Int} {t r : ByteArray} (h : RightV k t r) : isP (verV k t r) = keepQ ⟨k, t, r⟩ := by
  have h0 := h.k0
  have h3 := h.k3
  have he : keepQ ⟨k, t, r⟩ = !r.toList.isEmpty := by unfold keepQ keepD to30; simp
  rw [he]
  by_cases hr : r = ⟨#[]⟩
  · subst hr
    have e : (⟨#[]⟩ : ByteArray).toList.isEmpty = true := by rw [ByteArray.toList_eq]; rfl
    rw [e]
    have hk : k = 0 ∨ k = 1 ∨ k = 2 ∨ k = 3 := by omega
    rcases hk with rfl | rfl | rfl | rfl <;> rfl
  · have e : r.toList.isEmpty = false := by
      cases hh : r.toList with
      | nil => exact absurd (nil_of_toList hh) hr
      | cons => rfl
    rw [e]
    have hk : k = 1 ∨ k = 2 ∨ k = 3 := by
      have : k ≠ 0 := fun h0 => hr (h.rk h0)
      omega
    rcases hk with rfl | rfl | rfl <;> (unfold verV; simp [unpV, hr, isP])
theorem map_filt {α β : Type} {f : α → β} {p : α → Bool} {q : β → Bool} : ∀ (l : List α), (∀ a ∈ l, p a = q (f a)) → (l.filter p).map f = (l.map f).filter q
  | [], _ => rfl
  | a :: l, h => by
    have h1 := h a (List.mem_cons_self)
    have h2 := map_filt l (fun b hb => h b (List.mem_cons_of_mem _ hb))
    rw [List.map_cons, List.filter_cons, List.filter_cons, ← h1]
    cases p a <;> simp [h2]
theorem ps_of {down : Bool} {DD : List VS} {l : List S27} (hD : DD.map (fun a : VS => s27 a.1) = l) (hmem : ∀ a ∈ DD, verV (s27 a.1).f0 (s27 a.1).f1 (s27 a.1).f2 = a.1) {w : World} {e : Ending} {w' : World} (h : SortedEnd down DD.toArray w e w') : PsEnd down l w e w' := by
  obtain ⟨x, d', rfl, hp, hso, ho, hb⟩ := h
  have hsz : d'.size = DD.toArray.size := hp.1
  have hpl := perm_list hp
  have e2 : DD.toArray.toList = DD := by simp
  rw [e2] at hpl
  refine ⟨x, d'.toList.map fun a => s27 a.1, rfl, ?_, ?_, ?_, hb⟩
  · have := hpl.map (fun a : VS => s27 a.1)
    rwa [hD] at this
  · have h1 := sorted_list hsz hso
    rw [List.pairwise_map, List.pairwise_map]
    refine h1.imp_of_mem fun {a b} ha hb h => ?_
    unfold ltV lessV at h
    show ¬ versC down (verV (s27 b.1).f0 (s27 b.1).f1 (s27 b.1).f2) (verV (s27 a.1).f0 (s27 a.1).f1 (s27 a.1).f2) < 0
    rw [hmem a (hpl.subset ha), hmem b (hpl.subset hb)]
    exact of_decide_eq_false h
  · have e1 : flat27 (d'.toList.map fun a => s27 a.1) = d'.toList.flatMap fun a => (backV a.1).cells.toList := by
      unfold flat27
      rw [List.flatMap_map]
      congr 1
      funext a
      rw [back_cells]
    rw [e1, List.length_map, Array.length_toList, hsz]
    exact ho
theorem vds_mem {l : List S27} (hr : AllRight l) : ∀ a ∈ (vds l hr.size).map VD.ver, ∃ z ∈ l, a.1 = verV z.f0 z.f1 z.f2 := by
  intro a ha
  obtain ⟨y, hy, rfl⟩ := List.mem_map.1 ha
  obtain ⟨z, hz, rfl⟩ := List.mem_pmap.1 hy
  exact ⟨z, hz, rfl⟩
theorem vds_map {l : List S27} (hr : AllRight l) : ((vds l hr.size).map VD.ver).map (fun a : VS => s27 a.1) = l := by
  have hlen : (vds l hr.size).length = l.length := by simp [vds]
  refine List.ext_getElem (by simp [hlen]) fun i h1 h2 => ?_
  have h3 : RightV l[i].f0 l[i].f1 l[i].f2 := hr _ (List.getElem_mem h2)
  have e : (vds l hr.size)[i]'(by rw [hlen]; exact h2) = ⟨l[i].f0, l[i].f1, l[i].f2, hr.size _ (List.getElem_mem h2)⟩ := by simp [vds, List.getElem_pmap]
  rw [List.getElem_map, List.getElem_map, e]
  exact s27_ver h3
theorem psortP (down : Bool) (l : List S27) (hr : AllRight l) (hl : l.length < 50) (v : Value) (base : Nat) (w : World) (hv : Vars w) (ho : w.ownsRow base 27 3 v l.length (flat27 l)) :
    Calls Tryz.prog 37 #[v, .bool down, .bool true] w (PsEnd down (l.filter keepQ) w) := by
  have hA := at27 hr.size ho
  have hlen : (vds l hr.size).length = l.length := by simp [vds]
  have hm : ∀ a ∈ (vds l hr.size).map VD.ver, verV (s27 a.1).f0 (s27 a.1).f1 (s27 a.1).f2 = a.1 := by
    intro a ha
    obtain ⟨z, hz, e⟩ := vds_mem hr a ha
    rw [e, s27_ver (hr z hz)]
  have hD : (((vds l hr.size).map VD.ver).filter fun a => isP a.1).map (fun a : VS => s27 a.1) = l.filter keepQ := by
    rw [map_filt (q := keepQ) _ (fun a ha => ?_), vds_map hr]
    obtain ⟨z, hz, e⟩ := vds_mem hr a ha
    rw [e, s27_ver (hr z hz), isP_ver (hr z hz)]
  have hm2 : ∀ a ∈ (((vds l hr.size).map VD.ver).filter fun a => isP a.1), verV (s27 a.1).f0 (s27 a.1).f1 (s27 a.1).f2 = a.1 := fun a ha => hm a (List.mem_filter.1 ha).1
  cases down
  · exact (sortedP_up (vds l hr.size) (by rw [hlen]; exact hl) v w hv hA).mono fun e w' h => ps_of hD hm2 h
  · exact (sortedP_dn (vds l hr.size) (by rw [hlen]; exact hl) v w hv hA).mono fun e w' h => ps_of hD hm2 h
theorem keep_map (l : List S27) : (l.map to30).filter (keepD true) = (l.filter keepQ).map to30 := (map_filt (f := to30) (p := keepQ) (q := keepD true) l (fun _ _ => rfl)).symm
end Go.Proofs.YtgoeiflddikihaaGreatDoor.Ver
end
section
namespace Go.Proofs.YtgoeiflddikihaaGreatDoor.Ver
set_option linter.unusedSimpArgs false
set_option linter.unusedVariables false
open Go.RowKit Go.Proofs.YtgoeiflddikihaaGreatDoor.Dig Go.Proofs.YtgoeiflddikihaaGreatDoor.PFnVersion Go.Proofs.YtgoeiflddikihaaGreatDoorW.PrintWords Go.Proofs.YtgoeiflddikihaaGreatDoor.Mem Go.Proofs.YtgoeiflddikihaaGreatDoor.Ord Go.Proofs.YtgoeiflddikihaaGreatDoor.Ins
set_option maxRecDepth 20000 in
set_option maxHeartbeats 4000000 in
theorem paired_law (l : List S27) (b : Bool) (w : World) (A : Option Addr) (c : Nat) (hC : Kd.C k27 w A l.length l) (hcap : l.length ≤ c) {G : Prop} (_ : G) (hv : Vars w) :
    Calls Tryz.prog 10 #[.slice A l.length c, .bool b] w fun e w' => e = .returned (.bool true) ∧ Below w.heap.size w w' := by
  have HB := Aside0.mk (Below.refl w.heap.size w)
  have HA := Lib.hid (fun W (hb : Below w.heap.size w W) => awake W (Vars.below (w := w) hv hb))
  have HV0 := Lib.hid (fun W (hb : Below w.heap.size w W) => Vars.below (w := w) hv hb)
  have HC := Lib.hid (fun W (hb : Below w.heap.size w W) => Kd.C_below hC hb)
  obtain ⟨b0, k0, hf0, hfit⟩ := fits_f l
  have HZ := Lib.hid (fun W (hb : Below w.heap.size w W) => laws_zzFits3.calls k0 A c l b0 W (Kd.C_below hC hb) hcap hf0)
  cases b0 with
  | false =>
    clear hC hcap hf0 hfit hv
    go_enter Tryz.func10, Tryz.ntmps10
    go_wp2_with (go_at_call 23; ((with_reducible refine (HZ.out _ (by repeat (first | exact HB.out | apply below_alloc | apply pw_below_drewN | apply pw_below_drew))).mono ?_); rintro e w1 ⟨rfl, hb⟩; have HB1 := Aside0.mk (below_trans HB.out hb); clear hb HB; have HB := HB1; clear HB1))
    go_ret
    exact ⟨rfl, HB.out⟩
  | true =>
    obtain ⟨hl, hsz⟩ := hfit rfl
    obtain ⟨b1, k1, hf1, hri⟩ := list_f l (by omega) (fun x hx => by have := hsz x hx; omega)
    cases b1 with
    | false =>
      have HL := Lib.hid (fun W (hb : Below w.heap.size w W) => laws_verList.calls k1 A c l _ _ W (Kd.C_below hC hb) hcap hf1)
      clear hC hcap hf0 hfit hv hf1 hri hl hsz
      go_enter Tryz.func10, Tryz.ntmps10
      go_wp2_with (first | (go_at_call 23; ((with_reducible refine (HZ.out _ (by repeat (first | exact HB.out | apply below_alloc | apply pw_below_drewN | apply pw_below_drew))).mono ?_); rintro e w1 ⟨rfl, hb⟩; have HB1 := Aside0.mk (below_trans HB.out hb); clear hb HB; have HB := HB1; clear HB1)) | (go_at_call 41; ((with_reducible refine (HL.out _ (by repeat (first | exact HB.out | apply below_alloc | apply pw_below_drewN | apply pw_below_drew))).mono ?_); rintro e w2 ⟨v0, rfl, hR, hb⟩; obtain ⟨X, hV, hM⟩ := vok_of hR hb; have HSV := Lib.hid (sv_any _ v0 X b true w2 (by simp) hV hM.has (by simp)); have HB2 := Aside0.mk (below_trans HB.out hb); clear hR hb hV hM HB; have HB := HB2; clear HB2)) | (go_at_call 42; ((with_reducible refine HSV.out.mono ?_); rintro e w3 ⟨v3, X3, rfl, _, hM3⟩; have HB3 := Aside0.mk (below_trans HB.out hM3.bel); clear hM3 HB HSV; have HB := HB3; clear HB3)) | (go_at_call 25; ((with_reducible refine (HA.out _ (by repeat (first | exact HB.out | apply below_alloc | apply pw_below_drewN | apply pw_below_drew))).mono ?_); rintro e w4 ⟨rfl, hb⟩; have HB4 := Aside0.mk (below_trans HB.out hb); clear hb HB; have HB := HB4; clear HB4)))
      go_ret
      exact ⟨rfl, HB.out⟩
    | true =>
      obtain ⟨hl20, har⟩ := hri rfl
      have HAR := Lib.hid har
      have HRG := Lib.hid (show ∀ x ∈ l.map to30, (0 ≤ x.f0 ∧ x.f0 ≤ 3) ∧ x.f1.size ≤ 100000 from fun x hx => by
        obtain ⟨y, hy, rfl⟩ := List.mem_map.1 hx
        have h := har y hy
        exact ⟨⟨h.k0, h.k3⟩, Nat.le_trans h.t60 (by decide)⟩)
      have HL := Lib.hid (fun W (hb : Below w.heap.size w W) => laws_verList.calls k1 A c l (l.map to30) true W (Kd.C_below hC hb) hcap hf1)
      have HLE := Lib.hid (show (l.map to30).length ≤ 100 by rw [List.length_map]; omega)
      have HLL := Lib.hid (show l.length < 50 by omega)
      have hflt := keep_map l
      have HFL := Lib.hid hflt
      clear hC hcap hf0 hfit hv hf1 hri hl hsz har hflt hl20
      have HQL := Lib.hid (show (l.filter keepQ).length ≤ l.length from List.length_filter_le _ _)
      cases hins : insAll (cmpD b) ((l.filter keepQ).map to30) [] with
      | none =>
        have HI := Lib.hid hins
        clear hins
        go_enter Tryz.func10, Tryz.ntmps10
        go_wp2_with (first | (go_at_call 23; ((with_reducible refine (HZ.out _ (by repeat (first | exact HB.out | apply below_alloc | apply pw_below_drewN | apply pw_below_drew))).mono ?_); rintro e w1 ⟨rfl, hb⟩; have HB1 := Aside0.mk (below_trans HB.out hb); clear hb HB; have HB := HB1; clear HB1)) | (go_at_call 41; ((with_reducible refine (HL.out _ (by repeat (first | exact HB.out | apply below_alloc | apply pw_below_drewN | apply pw_below_drew))).mono ?_); rintro e w2 ⟨v0, rfl, hR, hb⟩; obtain ⟨X, hV, hM⟩ := vok_of hR hb; have HSV := Lib.hid (sv_any _ v0 X b true w2 (by exact HLE.out) hV hM.has (by exact HRG.out)); have HB2 := Aside0.mk (below_trans HB.out hb); clear hR hb hV hM HB; have HB := HB2; clear HB2)) | (go_at_call 42; ((with_reducible refine HSV.out.mono ?_); intro e w3 hsv; rw [HFL.out, HI.out] at hsv; obtain ⟨rfl, hb⟩ := hsv; have HB3 := Aside0.mk (below_trans HB.out hb); clear hb HB HSV; have HB := HB3; clear HB3)) | (go_at_call 25; ((with_reducible refine (HA.out _ (by repeat (first | exact HB.out | apply below_alloc | apply pw_below_drewN | apply pw_below_drew))).mono ?_); rintro e w4 ⟨rfl, hb⟩; have HB4 := Aside0.mk (below_trans HB.out hb); clear hb HB; have HB := HB4; clear HB4)))
        go_ret
        exact ⟨rfl, HB.out⟩
      | some R =>
        have HI := Lib.hid hins
        clear hins
        have HAP := Lib.hid (fun W (hb : Below w.heap.size w W) => app27 A c l W (HC.out W hb) (Nat.le_of_lt (Nat.lt_of_lt_of_le HLL.out (by decide))))
        go_enter Tryz.func10, Tryz.ntmps10
        go_wp2_with (first | (at_builtin; (refine wpList_app_run rfl rfl rfl HAPP.out (by first | rfl | kernel_rfl | (simp [Region.wanted, yielded]; done) | go_simp) ?_); clear HAPP) | (go_at_call 23; ((with_reducible refine (HZ.out _ (by repeat (first | exact HB.out | apply below_alloc | apply pw_below_drewN | apply pw_below_drew))).mono ?_); rintro e w1 ⟨rfl, hb⟩; have HB1 := Aside0.mk (below_trans HB.out hb); clear hb HB; have HB := HB1; clear HB1)) | (go_at_call 41; ((with_reducible refine (HL.out _ (by repeat (first | exact HB.out | apply below_alloc | apply pw_below_drewN | apply pw_below_drew))).mono ?_); rintro e w2 ⟨v0, rfl, hR, hb⟩; obtain ⟨X, hV, hM⟩ := vok_of hR hb; have HSV := Lib.hid (sv_any _ v0 X b true w2 (by exact HLE.out) hV hM.has (by exact HRG.out)); have HB2 := Aside0.mk (below_trans HB.out hb); clear hR hb hV hM HB; have HB := HB2; clear HB2)) | (go_at_call 42; ((with_reducible refine HSV.out.mono ?_); intro e w3 hsv; rw [HFL.out, HI.out] at hsv; obtain ⟨v3, X3, rfl, hV3, hM3⟩ := hsv; obtain ⟨A3, c3, rfl, hc3, hk3⟩ := vok_c hV3 hM3 (fun _ h => h); have HB3 := Aside0.mk (below_trans HB.out hM3.bel); have HK := Lib.hid (fun W (hb : Below w3.heap.size w3 W) => Kd.C_below hk3 hb); have HCC := Lib.hid hc3; have HX := Aside0.mk (Below.refl w3.heap.size w3); clear hV3 hM3 hk3 hc3 HB HSV; have HB := HB3; clear HB3)) | (go_at_call 25; ((with_reducible refine (HA.out _ (by repeat (first | exact HB.out | apply below_alloc | apply pw_below_drewN | apply pw_below_drew))).mono ?_); rintro e w4 ⟨rfl, hb⟩; have HB4 := Aside0.mk (below_trans HB.out hb); have HX4 := Aside0.mk (below_trans HX.out hb); clear hb HB HX; obtain ⟨v5, w5, hap0, ho, hb5⟩ := HAP.out w4 HB4.out; have HPS := Lib.hid (psortP b l HAR.out HLL.out v5 _ w5 (HV0.out w5 (below_trans HB4.out hb5)) ho); have HB := Aside0.mk (below_trans HB4.out hb5); have HX := Aside0.mk (below_trans HX4.out hb5); have HAPP := Lib.hid hap0; clear ho hb5 HB4 HX4 hap0)) | (go_at_call 37; ((with_reducible refine HPS.out.mono ?_); rintro e w6 ⟨x6, L, rfl, hp, hs, ho, hb⟩; obtain ⟨A6, c6, rfl, hc6, hk6⟩ := row27 rfl ho; obtain rfl := want_eq HI.out hp hs; have hvs := laws_verSorted.calls (L.length + 1) A6 c6 L A3 c3 (L.map to30) true w6 hk6 hc6 (HK.out w6 (below_trans HX.out hb)) HCC.out (same_f L (by rw [hp.length_eq]; have := HLL.out; have := HQL.out; omega)); rw [List.length_map] at hvs; have HVS := Lib.hid hvs; clear hvs; have HB6 := Aside0.mk (below_trans HB.out hb); clear hp hs ho hb hc6 hk6 HB HX HPS; have HB := HB6; clear HB6)) | (go_at_call 43; ((with_reducible refine HVS.out.mono ?_); rintro e w7 ⟨rfl, hb⟩; have HB7 := Aside0.mk (below_trans HB.out hb); clear hb HB HVS; have HB := HB7; clear HB7)))
        go_ret
        exact ⟨rfl, HB.out⟩
end Go.Proofs.YtgoeiflddikihaaGreatDoor.Ver
end
