/- Merged by program out of: SpecE. -/
import Derived.Test.YtgoeiflddikihaaGreatDoorCpM41
import Derived.Test.YtgoeiflddikihaaGreatDoorCpM40
import Derived.Test.YtgoeiflddikihaaGreatDoorCpM39
section
namespace Go.Proofs.YtgoeiflddikihaaGreatDoor.Ver
set_option linter.unusedSimpArgs false
set_option linter.unusedVariables false
open Go.RowKit Go.Proofs.YtgoeiflddikihaaGreatDoor.Dig Go.Proofs.YtgoeiflddikihaaGreatDoorW.PrintWords Go.Proofs.YtgoeiflddikihaaGreatDoor.Mem Go.Proofs.YtgoeiflddikihaaGreatDoor.Ord
theorem ver0 (t r : ByteArray) : verV 0 t r = .rev t := by
  unfold verV unpV; rw [if_neg (by decide), if_neg (by decide), if_neg (by decide)]
theorem ver_un {k : Int} {t r : ByteArray} {u : Unp} (h : unpV k t = some u) : (verV k t r).bare = .un u := by
  unfold verV; rw [h]; simp only; split <;> rfl
theorem versC_bare (down : Bool) (a b : Vers) : versC down a b = versC down a.bare b.bare := by
  rcases a with _ | u | ⟨u, _⟩ <;> rcases b with _ | x | ⟨x, _⟩ <;> (try cases u) <;> (try cases x) <;> rfl
theorem unp1 (t : ByteArray) : unpV 1 t = some (.branch t false) := by unfold unpV; rw [if_pos rfl]
theorem unp2 (t : ByteArray) : unpV 2 t = some (.branch t true) := by unfold unpV; rw [if_neg (by decide), if_pos rfl]
theorem unp3 (t : ByteArray) : unpV 3 t = some (newV t) := by unfold unpV; rw [if_neg (by decide), if_neg (by decide), if_pos rfl]
inductive Is (k : Int) (t : ByteArray) (b : Vers) : Prop
  | rev (hk : k = 0) (ht : typS k t = 0) (hb : b = .rev t)
  | branch (hk : k = 1) (ht : typS k t = 3) (hb : b = .un (.branch t false))
  | dflt (hk : k = 2) (ht : typS k t = 3) (hb : b = .un (.branch t true))
  | plain (hk : k = 3) (ht : typS k t = 1) (hb : b = .un (.plain t))
  | sem (hk : k = 3) (ht : typS k t = 2) (hs : (qSemB0 t.data.toList).isSome = true) (hb : b = .un (.sem (svOf t)))
theorem is_any (k : Int) (t r : ByteArray) (hk : 0 ≤ k ∧ k ≤ 3) : Is k t (verV k t r).bare := by
  obtain rfl | rfl | rfl | rfl : k = 0 ∨ k = 1 ∨ k = 2 ∨ k = 3 := by omega
  · exact .rev rfl rfl (by rw [ver0]; rfl)
  · exact .branch rfl rfl (ver_un (unp1 t))
  · exact .dflt rfl rfl (ver_un (unp2 t))
  · cases hq : (qSemB0 t.data.toList).isSome with
    | false =>
      refine .plain rfl (by unfold typS; rw [hq]; rfl) ((ver_un (unp3 t)).trans ?_)
      rw [new_plain]
      cases h : qSemB0 t.data.toList with
      | none => rfl
      | some q => rw [h] at hq; cases hq
    | true =>
      refine .sem rfl (by unfold typS; rw [hq]; rfl) hq ((ver_un (unp3 t)).trans ?_)
      unfold newV; rw [sv_read t hq]
theorem rankS_eq {k : Int} {t : ByteArray} : (typS k t = 0 → rankS k t = 3) ∧ (typS k t = 1 → rankS k t = 2) ∧ (typS k t = 2 → rankS k t = 0) ∧ (typS k t = 3 → rankS k t = 1) := by
  refine ⟨fun h => ?_, fun h => ?_, fun h => ?_, fun h => ?_⟩ <;> (unfold rankS; rw [h]; rfl)
theorem pre_len (l : List UInt8) : (((preParts l).map mkB).length = 0) ↔ l.isEmpty = true := by
  rw [List.length_map, List.length_eq_zero_iff, preParts_nil]; simp
theorem versC_name {down : Bool} {a b : Vers} (h1 : a.rank = b.rank) (h2 : a.dflt = b.dflt) (h3 : a.isPre = b.isPre) (h4 : a.sem = zV) (h5 : b.sem = zV) : versC down a b = bytesC a.name b.name := by
  unfold versC thenC onC
  rw [h1, h2, h3, h4, h5]
  rw [if_pos (cmp_nat.refl _), if_pos (cmp_nat.refl _), if_pos (cmp_nat.refl _), (cmp_flip down cmp_v).refl zV]
  split <;> omega
theorem ver_order (k1 k2 : Int) (t1 r1 t2 r2 : ByteArray) (down : Bool) (hk1 : 0 ≤ k1 ∧ k1 ≤ 3) (hk2 : 0 ≤ k2 ∧ k2 ≤ 3) (ht1 : t1.size ≤ 100000) (ht2 : t2.size ≤ 100000) (w : World) :
    Calls Tryz.prog 84 #[.agg #[.int .i64 k1, .string t1, .string r1], .agg #[.int .i64 k2, .string t2, .string r2], .bool down] w fun e w' =>
      e = .returned (.int .i64 (versC down (verV k1 t1 r1) (verV k2 t2 r2))) ∧ Below w.heap.size w w' := by
  rw [versC_bare]
  have i1 := is_any k1 t1 r1 hk1
  have i2 := is_any k2 t2 r2 hk2
  generalize (verV k1 t1 r1).bare = b1 at *
  generalize (verV k2 t2 r2).bare = b2 at *
  have far : ∀ (x y : Int) (a b : Vers), rankS k1 t1 = x → rankS k2 t2 = y → x ≠ y → versC down a b = (if x < y then -1 else 1) →
      Calls Tryz.prog 84 #[.agg #[.int .i64 k1, .string t1, .string r1], .agg #[.int .i64 k2, .string t2, .string r2], .bool down] w fun e w' => e = .returned (.int .i64 (versC down a b)) ∧ Below w.heap.size w w' :=
    fun x y a b h1 h2 h3 h4 => by rw [h4]; exact vo_rank k1 k2 t1 r1 t2 r2 down hk1 hk2 ht1 ht2 w x y h1 h2 h3
  cases i1 with
  | rev e1 y1 hb1 =>
    subst hb1
    have q1 := rankS_eq.1 y1
    cases i2 with
    | rev e2 y2 hb2 =>
      subst hb2
      rw [show versC down (.rev t1) (.rev t2) = bytesC t1.data.toList t2.data.toList from versC_name rfl rfl rfl rfl rfl]
      exact vo_textr k1 k2 t1 r1 t2 r2 down hk1 hk2 ht1 ht2 w 3 q1 (rankS_eq.1 y2) y1
    | branch e2 y2 hb2 => subst hb2; exact far 3 1 _ _ q1 (rankS_eq.2.2.2 y2) (by decide) rfl
    | dflt e2 y2 hb2 => subst hb2; exact far 3 1 _ _ q1 (rankS_eq.2.2.2 y2) (by decide) rfl
    | plain e2 y2 hb2 => subst hb2; exact far 3 2 _ _ q1 (rankS_eq.2.1 y2) (by decide) rfl
    | sem e2 y2 s2 hb2 => subst hb2; exact far 3 0 _ _ q1 (rankS_eq.2.2.1 y2) (by decide) rfl
  | branch e1 y1 hb1 =>
    subst hb1
    have q1 := rankS_eq.2.2.2 y1
    cases i2 with
    | rev e2 y2 hb2 => subst hb2; exact far 1 3 _ _ q1 (rankS_eq.1 y2) (by decide) rfl
    | branch e2 y2 hb2 =>
      subst hb2
      rw [show versC down (.un (.branch t1 false)) (.un (.branch t2 false)) = bytesC t1.data.toList t2.data.toList from versC_name rfl rfl rfl rfl rfl]
      exact vo_textb k1 k2 t1 r1 t2 r2 down hk1 hk2 ht1 ht2 w 1 q1 (rankS_eq.2.2.2 y2) y1 false (by rw [e1]; rfl) (by rw [e2]; rfl)
    | dflt e2 y2 hb2 =>
      subst hb2
      exact vo_branch k1 k2 t1 r1 t2 r2 down hk1 hk2 ht1 ht2 w 1 q1 (rankS_eq.2.2.2 y2) y1 false (by rw [e1]; rfl) (by rw [e2]; rfl)
    | plain e2 y2 hb2 => subst hb2; exact far 1 2 _ _ q1 (rankS_eq.2.1 y2) (by decide) rfl
    | sem e2 y2 s2 hb2 => subst hb2; exact far 1 0 _ _ q1 (rankS_eq.2.2.1 y2) (by decide) rfl
  | dflt e1 y1 hb1 =>
    subst hb1
    have q1 := rankS_eq.2.2.2 y1
    cases i2 with
    | rev e2 y2 hb2 => subst hb2; exact far 1 3 _ _ q1 (rankS_eq.1 y2) (by decide) rfl
    | branch e2 y2 hb2 =>
      subst hb2
      exact vo_branch k1 k2 t1 r1 t2 r2 down hk1 hk2 ht1 ht2 w 1 q1 (rankS_eq.2.2.2 y2) y1 true (by rw [e1]; rfl) (by rw [e2]; rfl)
    | dflt e2 y2 hb2 =>
      subst hb2
      rw [show versC down (.un (.branch t1 true)) (.un (.branch t2 true)) = bytesC t1.data.toList t2.data.toList from versC_name rfl rfl rfl rfl rfl]
      exact vo_textb k1 k2 t1 r1 t2 r2 down hk1 hk2 ht1 ht2 w 1 q1 (rankS_eq.2.2.2 y2) y1 true (by rw [e1]; rfl) (by rw [e2]; rfl)
    | plain e2 y2 hb2 => subst hb2; exact far 1 2 _ _ q1 (rankS_eq.2.1 y2) (by decide) rfl
    | sem e2 y2 s2 hb2 => subst hb2; exact far 1 0 _ _ q1 (rankS_eq.2.2.1 y2) (by decide) rfl
  | plain e1 y1 hb1 =>
    subst hb1
    have q1 := rankS_eq.2.1 y1
    cases i2 with
    | rev e2 y2 hb2 => subst hb2; exact far 2 3 _ _ q1 (rankS_eq.1 y2) (by decide) rfl
    | branch e2 y2 hb2 => subst hb2; exact far 2 1 _ _ q1 (rankS_eq.2.2.2 y2) (by decide) rfl
    | dflt e2 y2 hb2 => subst hb2; exact far 2 1 _ _ q1 (rankS_eq.2.2.2 y2) (by decide) rfl
    | plain e2 y2 hb2 =>
      subst hb2
      rw [show versC down (.un (.plain t1)) (.un (.plain t2)) = bytesC t1.data.toList t2.data.toList from versC_name rfl rfl rfl rfl rfl]
      exact vo_textp k1 k2 t1 r1 t2 r2 down hk1 hk2 ht1 ht2 w 2 q1 (rankS_eq.2.1 y2) y1
    | sem e2 y2 s2 hb2 => subst hb2; exact far 2 0 _ _ q1 (rankS_eq.2.2.1 y2) (by decide) rfl
  | sem e1 y1 s1 hb1 =>
    subst hb1
    have q1 := rankS_eq.2.2.1 y1
    cases i2 with
    | rev e2 y2 hb2 => subst hb2; exact far 0 3 _ _ q1 (rankS_eq.1 y2) (by decide) rfl
    | branch e2 y2 hb2 => subst hb2; exact far 0 1 _ _ q1 (rankS_eq.2.2.2 y2) (by decide) rfl
    | dflt e2 y2 hb2 => subst hb2; exact far 0 1 _ _ q1 (rankS_eq.2.2.2 y2) (by decide) rfl
    | plain e2 y2 hb2 => subst hb2; exact far 0 2 _ _ q1 (rankS_eq.2.1 y2) (by decide) rfl
    | sem e2 y2 s2 hb2 =>
      subst hb2
      refine vo_sem k1 k2 t1 r1 t2 r2 down hk1 hk2 ht1 ht2 w 0 q1 (rankS_eq.2.2.1 y2) y1 s1 s2 (svOf t1) (svOf t2) (cntOf t1) (cntOf t2) rfl rfl rfl rfl _ ?_
      simp only [pre_len]
      have ha := cmp_v.anti (svOf t1) (svOf t2)
      show (if natC 0 0 = 0 then (if natC 0 0 = 0 then (if natC (boolN (svOf t1).pre.data.toList.isEmpty) (boolN (svOf t2).pre.data.toList.isEmpty) = 0 then (if bytesC [] [] = 0 then flipC down cmpV (svOf t1) (svOf t2) else bytesC [] []) else natC (boolN (svOf t1).pre.data.toList.isEmpty) (boolN (svOf t2).pre.data.toList.isEmpty)) else natC 0 0) else natC 0 0) = _
      rw [if_pos (cmp_nat.refl 0), if_pos (cmp_nat.refl 0), if_pos (cmp_bytes.refl [])]
      generalize (svOf t1).pre.data.toList.isEmpty = x
      generalize (svOf t2).pre.data.toList.isEmpty = y
      cases x <;> cases y <;> cases down <;> simp [boolN, natC, flipC, ha]
end Go.Proofs.YtgoeiflddikihaaGreatDoor.Ver
end
