/- Merged by program out of: SemO5. -/
import Derived.Test.YtgoeiflddikihaaGreatDoorCsoM44
section
namespace Go.Proofs.YtgoeiflddikihaaGreatDoor.Ver
set_option linter.unusedSimpArgs false
set_option linter.unusedVariables false
open Go.RowKit Go.Proofs.YtgoeiflddikihaaGreatDoor.Dig Go.Proofs.YtgoeiflddikihaaGreatDoor.PFnVersion Go.Proofs.YtgoeiflddikihaaGreatDoorW.PrintWords Go.Proofs.YtgoeiflddikihaaGreatDoor.Mem Go.Proofs.YtgoeiflddikihaaGreatDoor.Ord Go.Proofs.YtgoeiflddikihaaGreatDoor.Ins
theorem sv_parts {t : ByteArray} {ns : List Nat} {pre mt : List UInt8} (h : qSemB0 t.data.toList = some (ns, pre, mt)) : (svOf t).pre.data.toList = pre ∧ cntOf t = ns.length := by
  unfold svOf cntOf
  rw [h]
  exact ⟨rfl, rfl⟩
theorem read_shape {t : ByteArray} (ht : t.size ≤ 2200000000) {ns : List Nat} {pre mt : List UInt8} (h : qSemB0 t.data.toList = some (ns, pre, mt)) (hn : ns.length = 3) (W : World) :
    Calls Tryz.prog 34 #[.string t] W fun e w' => (∃ A c, e = .returned (.tuple #[.agg #[.int .u64 (ns.getD 0 0 : Nat), .int .u64 (ns.getD 1 0 : Nat), .int .u64 (ns.getD 2 0 : Nat), .int .i64 3, .slice A ((preParts pre).map mkB).length c, .string (mkB mt)], .bool true])) ∧ Below W.heap.size W w' := by
  refine (read_sem t ht W).mono ?_
  intro e w' hE
  rw [h] at hE
  obtain ⟨⟨P, rfl, hP⟩, hb⟩ := hE
  obtain ⟨A, c, rfl⟩ := hP.val
  exact ⟨⟨A, c, by rw [hn]; rfl⟩, hb⟩
theorem sign_mat (op : Bs) (b a : ByteArray) (hb : (qSemB0 b.data.toList).isSome = true) (hbc : cntOf b = 3) (ha : (qSemB0 a.data.toList).isSome = true) (hbs : b.size + op.length ≤ 96) (has : a.size ≤ 2147483647) {r : Bool} (hr : signD op (svOf b) (svOf a) = some r) (w : World) (hv : Vars w) :
    ∀ W, Below w.heap.size w W → Calls Tryz.prog 27 #[.agg #[.int .i64 2, .string (mkT op ++ b), .int .i64 0, .string ⟨#[]⟩, .string ⟨#[]⟩, .slice none 0 0], .agg #[.int .i64 3, .string a, .string ⟨#[]⟩]] W fun e w' => e = .returned (.bool r) ∧ Below W.heap.size W w' := by
  intro W hW
  obtain ⟨c, hc, hm⟩ := sign_holds op b (by omega) hb hbc (svOf a) hr
  have hsz : (mkT op ++ b).size ≤ 96 := by rw [ByteArray.size_append, mkT_size]; omega
  have h := mat_any (mkT op ++ b) hsz c hc (conV_ok (by omega) hc) 0 ⟨#[]⟩ ⟨#[]⟩ (.slice none 0 0) 3 a ⟨#[]⟩ has (by decide) W (hv.below hW)
  rw [sem_ver ha] at h
  have e : matchesV c (.un (.sem (svOf a))) = r := hm
  rw [e] at h
  exact h
theorem so_law (a b : ByteArray) (w : World) (hga : a.size ≤ 140737488351232) (hgb : b.size ≤ 140737488351232) (hv : Vars w) :
    Calls Tryz.prog 6 #[.string a, .string b] w fun e w' => e = .returned (.bool true) ∧ Below w.heap.size w w' := by
  refine so_early a b w hga hgb hv ?_
  intro na pa ma nb pb mb hqa hqb ha0 ha50 hb0 hb50 hna hnb hp1 hp2 ho1 ho2
  have sa : (qSemB0 a.data.toList).isSome = true := by rw [hqa]; rfl
  have sb : (qSemB0 b.data.toList).isSome = true := by rw [hqb]; rfl
  obtain ⟨pra, ca⟩ := sv_parts hqa
  obtain ⟨prb, cb⟩ := sv_parts hqb
  rw [hna] at ca ho1
  rw [hnb] at cb ho2
  have m1 := sign_mat [60] b a sb cb sa (by simp; omega) (by omega) (r := decide (cmpV (svOf a) (svOf b) < 0)) (by simp [signD]) w hv
  have m2 := sign_mat [61] b a sb cb sa (by simp; omega) (by omega) (r := (cmpV (svOf a) (svOf b) == 0)) (by simp [signD]) w hv
  have m3 := sign_mat [62] b a sb cb sa (by simp; omega) (by omega) (r := decide (0 < cmpV (svOf a) (svOf b))) (by simp [signD]) w hv
  have hval := cmpV_val (svOf a) (svOf b)
  have hne : (cmpV (svOf a) (svOf b) == 0) = false → a ≠ b := by
    rintro h rfl
    rw [cmp_v.refl] at h
    cases h
  have anti := cmp_v.anti (svOf a) (svOf b)
  have rt : ∀ {t : ByteArray}, 0 < t.size → t.size ≤ 50 → RightV 3 t ⟨#[]⟩ := fun h0 h50 => ⟨by decide, by decide, h0, by omega, by decide, fun h => absurd h (by decide)⟩
  refine so_head a b w hv ha50 hb50 _ _ _ _ _ _ _ _ _ _ (fun W => read_shape (by omega) hqa hna W) (fun W => read_shape (by omega) hqb hnb W) hp1 hp2 ho1 ho2 _ _ _ ?_ m1 m2 m3 ?_ ?_ ?_ ?_
  · rcases hval with h | h | h <;> rw [h] <;> decide
  · intro h
    refine beq_eq_false_iff_ne.2 fun e => hne h ?_
    rw [ByteArray.toList_eq, ByteArray.toList_eq] at e
    exact ByteArray.ext (Array.ext' e)
  · intro h
    refine beq_eq_false_iff_ne.2 fun e => hne h ?_
    rw [ByteArray.toList_eq, ByteArray.toList_eq] at e
    exact (ByteArray.ext (Array.ext' e)).symm
  · intro h hd L hL hs
    have hp : (svOf a).pre.data.toList.isEmpty = (svOf b).pre.data.toList.isEmpty := by
      rw [pra, prb]
      have h1 := pre_len2 pa
      have h2 := pre_len2 pb
      have h3 := decide_eq_decide.1 hd
      rw [h1, h2] at h3
      cases pa <;> cases pb <;> simp_all
    by_cases hc : cmpV (svOf a) (svOf b) < 0
    · rw [if_pos (decide_eq_true hc)]
      exact two_sorted sa sb hp rfl rfl (hL.trans (List.Perm.swap _ _ _)) hs hc
    · rw [if_neg (by simp only [decide_eq_true_eq]; exact hc)]
      have hc2 : cmpV (svOf b) (svOf a) < 0 := by
        have hz : cmpV (svOf a) (svOf b) ≠ 0 := beq_eq_false_iff_ne.1 h
        omega
      exact two_sorted sb sa hp.symm rfl rfl hL hs hc2
  · intro x hx
    rcases List.mem_cons.1 hx with rfl | hx
    · exact rt hb0 hb50
    · rw [List.mem_singleton.1 hx]; exact rt ha0 ha50
end Go.Proofs.YtgoeiflddikihaaGreatDoor.Ver
end
