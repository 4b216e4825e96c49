/- Merged by program out of: SortQ, SortR. -/
import Derived.Test.YtgoeiflddikihaaGreatDoorCsoM10
import Derived.Test.YtgoeiflddikihaaGreatDoorCsoM8
import Derived.Test.YtgoeiflddikihaaGreatDoorCsoM24
import Derived.Test.YtgoeiflddikihaaGreatDoorCsoM27
import Derived.Test.YtgoeiflddikihaaGreatDoorCsoM2
section
namespace Go.Proofs.YtgoeiflddikihaaGreatDoor.Ver
set_option linter.unusedSimpArgs false
set_option linter.unusedVariables false
open Go.RowKit Go.Proofs.YtgoeiflddikihaaGreatDoor.PFnVersion Go.Proofs.YtgoeiflddikihaaGreatDoorW.PrintWords Go.Proofs.YtgoeiflddikihaaGreatDoor.Mem Go.Proofs.YtgoeiflddikihaaGreatDoor.Srt Go.Proofs.YtgoeiflddikihaaGreatDoor.Ord Go.Proofs.YtgoeiflddikihaaGreatDoor.Ins Go.Sort
def c27 (x : S27) : List Value := [.int .i64 x.f0, .string x.f1, .string x.f2]
def flat27 (l : List S27) : List Value := l.flatMap c27
theorem flat27_to (l : List S27) : flat27 l = flat3 (l.map to30) := by
  induction l with
  | nil => rfl
  | cons x l ih => show c27 x ++ flat27 l = c3 (to30 x) ++ flat3 (l.map to30); rw [ih]; rfl
theorem reps27 (w : World) (base : Nat) (ok : Nat → Prop) : ∀ l : List S27, Reps (k27.M w base ok) 3 l (flat27 l)
  | [] => Reps.none _ _
  | x :: l => Reps.c3 (k27_mkM w base ok x) (reps27 w base ok l)
theorem row27 {w : World} {base n : Nat} {v : Value} {l : List S27} (hn : l.length = n) (h : w.ownsRow base 27 3 v n (flat27 l)) : ∃ A c, v = .slice A l.length c ∧ l.length ≤ c ∧ Kd.C k27 w A l.length l := by
  subst hn
  exact Kd.R_reads (e := 27) (base := base) (ok := fun _ => True) ⟨fun _ _ => trivial, _, h, reps27 w base _ l⟩
theorem to_flat (l : List S27) (j : Nat) (h : j < l.length) : (flat27 l)[j * 3]? = some (.int .i64 l[j].f0) ∧ (flat27 l)[j * 3 + 1]? = some (.string l[j].f1) ∧ (flat27 l)[j * 3 + 2]? = some (.string l[j].f2) := by
  have e := flat27_to l
  have hj : j < (l.map to30).length := by rw [List.length_map]; exact h
  have := flat3_at (l.map to30) j hj
  rw [List.getElem_map] at this
  rw [e]; exact this
def vds (l : List S27) (hr : ∀ x ∈ l, x.f1.size ≤ 2147483647) : List VD := l.pmap (fun x h => ⟨x.f0, x.f1, x.f2, h⟩) hr
theorem at27 {w : World} {base : Nat} {v : Value} {l : List S27} (hr : ∀ x ∈ l, x.f1.size ≤ 2147483647) (h : w.ownsRow base 27 3 v l.length (flat27 l)) : AtV w v (vds l hr) := by
  have hlen : (vds l hr).length = l.length := by simp [vds]
  by_cases hne : l.length = 0
  · obtain ⟨A, c, e, _⟩ := row27 rfl h
    exact ⟨A, c, by rw [hlen]; exact e, fun h => by rw [hlen] at h; omega⟩
  · obtain ⟨g, cap, cells, rest, rfl, _, hc, hl, _⟩ := row_block h (by omega)
    refine ⟨_, cap, by rw [hlen], fun _ => ⟨g, 0, rfl, fun i hi => ?_⟩⟩
    have hi' : i < l.length := by rw [← hlen]; exact hi
    have e : (vds l hr)[i] = ⟨l[i].f0, l[i].f1, l[i].f2, hr _ (List.getElem_mem hi')⟩ := by simp [vds, List.getElem_pmap]
    rw [e]
    have hf := to_flat l i hi'
    have key : ∀ j u, (flat27 l)[j]? = some u → w.cell? ⟨g, j, none⟩ = some u := by
      intro j u hu
      rw [cell_of_row w g j _ _ (0, 0) hc, ← Array.getElem?_toList, hl]
      rw [List.getElem?_append_left (List.getElem?_eq_some_iff.1 hu).1]; exact hu
    rw [Nat.zero_add]
    exact ⟨key _ _ hf.1, key _ _ hf.2.1, key _ _ hf.2.2⟩
end Go.Proofs.YtgoeiflddikihaaGreatDoor.Ver
end
section
namespace Go.Proofs.YtgoeiflddikihaaGreatDoor.Ver
set_option linter.unusedSimpArgs false
set_option linter.unusedVariables false
open Go.RowKit Go.Proofs.YtgoeiflddikihaaGreatDoor.Dig Go.Proofs.YtgoeiflddikihaaGreatDoor.PFnVersion Go.Proofs.YtgoeiflddikihaaGreatDoorW.PrintWords Go.Proofs.YtgoeiflddikihaaGreatDoor.Mem Go.Proofs.YtgoeiflddikihaaGreatDoor.Srt Go.Proofs.YtgoeiflddikihaaGreatDoor.Ord Go.Proofs.YtgoeiflddikihaaGreatDoor.Ins Go.Sort
def s27 : Vers → S27
  | .rev s => ⟨0, s, ⟨#[]⟩⟩
  | .un u => ⟨u.kind, u.word, ⟨#[]⟩⟩
  | .pair u r => ⟨u.kind, u.word, r⟩
theorem back_cells (v : Vers) : (backV v).cells.toList = c27 (s27 v) := by cases v <;> rfl
theorem newV_word {t : ByteArray} (ht : t.size ≤ 2147483647) : (newV t).word = t ∧ (newV t).kind = 3 := by
  unfold newV
  cases h : readV t with
  | none => exact ⟨rfl, rfl⟩
  | some p => exact ⟨(readV_ok' ht h).2, rfl⟩
theorem s27_ver {k : Int} {t r : ByteArray} (h : RightV k t r) : s27 (verV k t r) = ⟨k, t, r⟩ := by
  have ht : t.size ≤ 2147483647 := by have := h.t60; omega
  obtain ⟨w1, w2⟩ := newV_word ht
  have h0 := h.k0
  have h3 := h.k3
  have hk : k = 0 ∨ k = 1 ∨ k = 2 ∨ k = 3 := by omega
  rcases hk with rfl | rfl | rfl | rfl
  · obtain rfl := h.rk rfl
    rfl
  all_goals
    unfold verV
    by_cases hr : r = ⟨#[]⟩
    · subst hr
      first | (simp [unpV, s27, w1, w2]; done) | simp [unpV, s27, Unp.kind, Unp.word]
    · first | (simp [unpV, hr, s27, w1, w2]; done) | simp [unpV, hr, s27, Unp.kind, Unp.word]
abbrev AllRight (l : List S27) : Prop := ∀ x ∈ l, RightV x.f0 x.f1 x.f2
theorem AllRight.size {l : List S27} (h : AllRight l) : ∀ x ∈ l, x.f1.size ≤ 2147483647 := fun x hx => by have := (h x hx).t60; omega
def PsEnd (down : Bool) (l : List S27) (w : World) (e : Ending) (w' : World) : Prop :=
  ∃ x L, e = .returned x ∧ L.Perm l ∧ (L.map to30).Pairwise (fun a b => ¬ cmpD down b a < 0) ∧ w'.ownsRow w.heap.size 27 3 x L.length (flat27 L) ∧ RowKit.Below w.heap.size w w'
theorem ps_end {down : Bool} {l : List S27} (hr : AllRight l) {w : World} {e : Ending} {w' : World} (h : SortedEnd down ((vds l hr.size).map VD.ver).toArray w e w') : PsEnd down l w e w' := by
  obtain ⟨x, d', rfl, hp, hso, ho, hb⟩ := h
  have hlen : (vds l hr.size).length = l.length := by simp [vds]
  have hsz : d'.size = ((vds l hr.size).map VD.ver).toArray.size := hp.1
  have hn : ((vds l hr.size).map VD.ver).toArray.size = l.length := by simp [hlen]
  have hpl := perm_list hp
  have hD : ((vds l hr.size).map VD.ver).map (fun a : VS => s27 a.1) = l := by
    refine List.ext_getElem (by simp [hlen]) fun i h1 h2 => ?_
    have h3 : RightV l[i].f0 l[i].f1 l[i].f2 := hr _ (List.getElem_mem h2)
    have e : (vds l hr.size)[i]'(by rw [hlen]; exact h2) = ⟨l[i].f0, l[i].f1, l[i].f2, hr.size _ (List.getElem_mem h2)⟩ := by simp [vds, List.getElem_pmap]
    rw [List.getElem_map, List.getElem_map, e]
    exact s27_ver h3
  have hmem : ∀ a ∈ d'.toList, verV (s27 a.1).f0 (s27 a.1).f1 (s27 a.1).f2 = a.1 := by
    intro a ha
    have h1 := hpl.subset ha
    have h2 : a ∈ (vds l hr.size).map VD.ver := by simpa using h1
    obtain ⟨y, hy, rfl⟩ := List.mem_map.1 h2
    obtain ⟨z, hz, rfl⟩ := List.mem_pmap.1 hy
    show verV (s27 (verV z.f0 z.f1 z.f2)).f0 (s27 (verV z.f0 z.f1 z.f2)).f1 (s27 (verV z.f0 z.f1 z.f2)).f2 = verV z.f0 z.f1 z.f2
    rw [s27_ver (hr z hz)]
  refine ⟨x, d'.toList.map fun a => s27 a.1, rfl, ?_, ?_, ?_, hb⟩
  · have := hpl.map (fun a : VS => s27 a.1)
    have e2 : ((vds l hr.size).map VD.ver).toArray.toList = (vds l hr.size).map VD.ver := by simp
    rw [e2, hD] at this
    exact this
  · have h1 := sorted_list hsz hso
    rw [List.pairwise_map, List.pairwise_map]
    refine h1.imp_of_mem fun {a b} ha hb h => ?_
    unfold ltV lessV at h
    show ¬ versC down (verV (s27 b.1).f0 (s27 b.1).f1 (s27 b.1).f2) (verV (s27 a.1).f0 (s27 a.1).f1 (s27 a.1).f2) < 0
    rw [hmem a ha, hmem b hb]
    exact of_decide_eq_false h
  · have e1 : flat27 (d'.toList.map fun a => s27 a.1) = d'.toList.flatMap fun a => (backV a.1).cells.toList := by
      unfold flat27
      rw [List.flatMap_map]
      congr 1
      funext a
      rw [back_cells]
    rw [e1, List.length_map, Array.length_toList, hsz]
    exact ho
theorem psort (down : Bool) (l : List S27) (hr : AllRight l) (hl : l.length < 50) (v : Value) (base : Nat) (w : World) (hv : Vars w) (ho : w.ownsRow base 27 3 v l.length (flat27 l)) :
    Calls Tryz.prog 37 #[v, .bool down, .bool false] w (PsEnd down l w) := by
  have hA := at27 hr.size ho
  have hlen : (vds l hr.size).length = l.length := by simp [vds]
  by_cases hne : l = []
  · subst hne
    obtain ⟨A, c, rfl, _⟩ := row27 rfl ho
    cases down
    · exact (sorted0_up A c w).mono fun e w' h => ps_end hr h
    · exact (sorted0_dn A c w).mono fun e w' h => ps_end hr h
  · have h0 : 0 < l.length := List.length_pos_iff.2 hne
    cases down
    · exact (sortedW_up (vds l hr.size) (by rw [hlen]; omega) v w hv hA).mono fun e w' h => ps_end hr h
    · exact (sortedW_dn (vds l hr.size) (by rw [hlen]; omega) v w hv hA).mono fun e w' h => ps_end hr h
end Go.Proofs.YtgoeiflddikihaaGreatDoor.Ver
end
