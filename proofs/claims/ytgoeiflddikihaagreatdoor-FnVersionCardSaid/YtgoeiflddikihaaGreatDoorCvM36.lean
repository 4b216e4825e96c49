/- Merged by program out of: SemU, VerL. -/
import Derived.Test.YtgoeiflddikihaaGreatDoorCvM34
import Derived.Test.YtgoeiflddikihaaGreatDoorCvM35
import Derived.Test.YtgoeiflddikihaaGreatDoorCvM14
import Derived.BigQuiet
import Derived.Lib.QuietBelow
section
namespace Go.Proofs.YtgoeiflddikihaaGreatDoor.Ver
set_option linter.unusedSimpArgs false
set_option linter.unusedVariables false
open Go.Sort Go.RowKit Go.Proofs.YtgoeiflddikihaaGreatDoor.Dig Go.Proofs.YtgoeiflddikihaaGreatDoorW.PrintWords Go.Proofs.YtgoeiflddikihaaGreatDoor.Mem Go.Proofs.YtgoeiflddikihaaGreatDoor.Ord Go.Proofs.YtgoeiflddikihaaGreatDoor.PFnVersion
def joinU : List (List UInt8) → List UInt8
  | [] => []
  | x :: r => 45 :: x ++ r.flatMap (fun y => 46 :: y)
theorem joinU_snoc {a : List (List UInt8)} (ha : a ≠ []) (b : List UInt8) : joinU (a ++ [b]) = joinU a ++ 46 :: b := by
  cases a with
  | nil => exact absurd rfl ha
  | cons x r => simp [joinU, List.flatMap_append]
theorem mk_data (l : List UInt8) : (mkB l).data.toList = l := rfl
theorem app_data (a b : ByteArray) : (a ++ b).data.toList = a.data.toList ++ b.data.toList := by simp
theorem jt_join (L : List (List UInt8)) : ∀ k, k ≤ L.length → (jt (L.map mkB) k).data.toList = joinU (L.take k)
  | 0, _ => rfl
  | k + 1, hk => by
    have ih := jt_join L k (by omega)
    have hg : (L.map mkB).getD k ⟨#[]⟩ = mkB L[k] := by simp [List.getD_eq_getElem?_getD, List.getElem?_eq_getElem (show k < L.length by omega)]
    rw [jt, hg, app_data, app_data, ih, List.take_succ_eq_append_getElem (by omega), mk_data]
    by_cases h0 : k = 0
    · subst h0
      rw [if_pos rfl]
      simp [joinU]
    · rw [if_neg h0, joinU_snoc (by intro e; have := congrArg List.length e; rw [List.length_take, List.length_nil, Nat.min_eq_left (by omega)] at this; omega)]
      rfl
theorem split_join : ∀ (n : Nat) (l : List UInt8), l.length ≤ n → ∃ x r, qSplitOn 46 l = x :: r ∧ x ++ r.flatMap (fun y => 46 :: y) = l
  | 0, l, hn => by
    obtain rfl := List.length_eq_zero_iff.1 (Nat.le_zero.1 hn)
    exact ⟨[], [], rfl, rfl⟩
  | n + 1, l, hn => by
    obtain ⟨x, hx, h⟩ := qSplitOn_first 46 l
    rcases h with ⟨rfl, h⟩ | ⟨r, rfl, h⟩
    · exact ⟨l, [], h, by simp⟩
    · obtain ⟨y, r', h1, h2⟩ := split_join n r (by simp at hn; omega)
      exact ⟨x, y :: r', by rw [h, h1], by rw [List.flatMap_cons, ← h2]; simp⟩
theorem jt_pre (l : List UInt8) : (jt ((preParts l).map mkB) (preParts l).length).data.toList = if l = [] then [] else 45 :: l := by
  rw [jt_join _ _ (Nat.le_refl _), List.take_length]
  unfold preParts
  by_cases hl : l = []
  · rw [if_pos hl, if_pos hl]; rfl
  · rw [if_neg hl, if_neg hl]
    obtain ⟨x, r, h1, h2⟩ := split_join l.length l (Nat.le_refl _)
    rw [h1, joinU, List.cons_append, h2]
theorem semT_semB (v : SV) : semT v.major v.minor v.patch ((preParts v.pre.data.toList).map mkB) v.mt = semB v := by
  have e : decB v.major ++ ⟨#[46]⟩ ++ decB v.minor ++ ⟨#[46]⟩ ++ decB v.patch ++ jt ((preParts v.pre.data.toList).map mkB) ((preParts v.pre.data.toList).map mkB).length = preB v := by
    unfold preB
    have h := jt_pre v.pre.data.toList
    rw [List.length_map]
    by_cases hp : v.pre = ⟨#[]⟩
    · rw [if_pos hp]
      rw [hp] at h ⊢
      rw [if_pos rfl] at h
      have h0 : jt ((preParts (⟨#[]⟩ : ByteArray).data.toList).map mkB) (preParts (⟨#[]⟩ : ByteArray).data.toList).length = ⟨#[]⟩ := by
        apply ByteArray.ext
        exact Array.toList_inj.1 h
      rw [h0]
      unfold threeB
      apply ByteArray.ext
      simp
    · rw [if_neg hp]
      have hne : v.pre.data.toList ≠ [] := by
        intro e
        exact hp (ByteArray.ext (Array.toList_eq_nil_iff.1 e))
      rw [if_neg hne] at h
      have h0 : jt ((preParts v.pre.data.toList).map mkB) (preParts v.pre.data.toList).length = ⟨#[45]⟩ ++ v.pre := by
        apply ByteArray.ext
        apply Array.toList_inj.1
        rw [h, app_data]; rfl
      rw [h0]; rfl
  unfold semT semB
  rw [e]
theorem semtext_any (v : SV) (ct : Nat) (hk : SVok v) (hs : v.pre.size ≤ 100000) (hm : v.mt.size ≤ 4294967296) (x : Value) (w : World) (base : Nat) (hx : SemAt w base x v ct) :
    Calls Tryz.prog 81 #[x] w fun e w' => e = .returned (.string (semB v)) ∧ Below w.heap.size w w' := by
  obtain ⟨P, rfl, hP⟩ := hx
  have la : v.pre.data.toList.length = v.pre.size := by rw [Array.length_toList]; rfl
  rw [← semT_semB v]
  refine semtext_main _ _ _ _ ⟨hk.a0, hk.a1⟩ ⟨hk.b0, hk.b1⟩ ⟨hk.c0, hk.c1⟩ _ hm P _ ?_ ?_ w base hP
  · intro p hp
    obtain ⟨y, hy, rfl⟩ := List.mem_map.1 hp
    unfold preParts at hy
    split at hy
    · cases hy
    · have := parts_size 46 _ y hy
      have : (mkB y).size = y.length := by show y.toArray.size = _; rw [List.size_toArray]
      omega
  · have := parts_len 46 v.pre.data.toList
    rw [List.length_map]
    unfold preParts
    split
    · simp
    · omega
def caretS (k : Int) (t : ByteArray) : ByteArray := if typS k t = 2 then ⟨#[61]⟩ ++ semB (svOf t) else t
theorem typ2 {k : Int} {t : ByteArray} (h : typS k t = 2) : (qSemB0 t.data.toList).isSome = true := by
  unfold typS at h
  split at h
  · cases h
  · split at h
    · cases h
    · split at h
      · assumption
      · cases h
set_option maxRecDepth 20000 in
set_option maxHeartbeats 4000000 in
theorem caret_any (k : Int) (t r : ByteArray) (hk : 0 ≤ k ∧ k ≤ 3) (ht : t.size ≤ 100000) (w : World) :
    Calls Tryz.prog 45 #[.agg #[.int .i64 k, .string t, .string r]] w fun e w' => e = .returned (.string (caretS k t)) ∧ Below w.heap.size w w' := by
  have HM := Aside0.mk (Blks.start w)
  have HT := Lib.hid (fun W => type_any k t r hk ht W)
  by_cases h2 : typS k t = 2
  · have hs := typ2 h2
    have hr := sv_read t hs
    have hok := readV_ok' (by omega) hr
    have hpre := (sv_ok t).2
    have hsz := semB_size (svOf t) hok.1
    have HV := Lib.hid (fun W => versem_any k t r ht hs W)
    have hmt : (svOf t).mt.size ≤ 4294967296 := hok.1.m
    have HST := Lib.hid (fun b x W (hx : SemAt W b x (svOf t) (cntOf t)) => semtext_any (svOf t) (cntOf t) hok.1 (by omega) hmt x W b hx)
    unfold caretS
    rw [if_pos h2]
    rw [h2] at HT
    clear h2 hs hr hok hpre hmt
    generalize svOf t = sv at *
    generalize cntOf t = ct at *
    generalize semB sv = st at *
    have one61 : (⟨#[61]⟩ : ByteArray).size = 1 := rfl
    have m1 : ¬ 9223372036854775807 < 1 + st.size := by omega
    clear hk ht
    go_enter Tryz.func45, Tryz.ntmps45
    go_wp2_with (first | (refine m_box (by repeat (first | exact HM.out | apply Blks.drewN | apply Blks.drew | apply Blks.other)) (h := ?_); intro bb wq HN; clear HM; have HM := HN; clear HN) | (refine m_load (by repeat (first | exact HM.out | apply Blks.drewN | apply Blks.drew | apply Blks.other)) (h := ?_)) | (refine m_load1 (by repeat (first | exact HM.out | apply Blks.drewN | apply Blks.drew | apply Blks.other)) (h := ?_)) | (go_at_call 44; ((with_reducible refine (HT.out _).mono ?_); rintro e w1 ⟨rfl, hb⟩; have HN := Aside0.mk (Blks.call (by repeat (first | exact HM.out | apply Blks.drewN | apply Blks.drew | apply Blks.other)) hb); clear HM hb; have HM := HN; clear HN)) | (go_at_call 68; ((with_reducible refine (HV.out _).mono ?_); rintro e w2 ⟨⟨x, rfl, hx⟩, hb⟩; have HX := Lib.hid (HST.out _ x _ hx); clear hx; have HN := Aside0.mk (Blks.call (by repeat (first | exact HM.out | apply Blks.drewN | apply Blks.drew | apply Blks.other)) hb); clear HM hb; have HM := HN; clear HN)) | (go_at_call 81; ((with_reducible refine HX.out.mono ?_); rintro e w3 ⟨rfl, hb⟩; have HN := Aside0.mk (Blks.call (by repeat (first | exact HM.out | apply Blks.drewN | apply Blks.drew | apply Blks.other)) hb); clear HM hb; have HM := HN; clear HN)))
    go_ret
    exact ⟨rfl, HM.out.bel⟩
  · unfold caretS
    rw [if_neg h2]
    have e2 : (typS k t == 2) = false := beq_eq_false_iff_ne.2 h2
    clear h2
    generalize typS k t = ty at *
    clear hk ht
    go_enter Tryz.func45, Tryz.ntmps45
    go_upto_region 3 with (first | (refine m_box (by repeat (first | exact HM.out | apply Blks.drewN | apply Blks.drew | apply Blks.other)) (h := ?_); intro bb wq HN; clear HM; have HM := HN; clear HN) | (refine m_load (by repeat (first | exact HM.out | apply Blks.drewN | apply Blks.drew | apply Blks.other)) (h := ?_)) | (refine m_load1 (by repeat (first | exact HM.out | apply Blks.drewN | apply Blks.drew | apply Blks.other)) (h := ?_)) | (go_at_call 44; ((with_reducible refine (HT.out _).mono ?_); rintro e w1 ⟨rfl, hb⟩; have HN := Aside0.mk (Blks.call (by repeat (first | exact HM.out | apply Blks.drewN | apply Blks.drew | apply Blks.other)) hb); clear HM hb; have HM := HN; clear HN)))
    have k1 := Blks.cell HM.out (b := bb) (o := 1) (by repeat (first | exact List.Mem.head _ | apply List.Mem.tail)) (by repeat (first | exact Rd.nil | apply Rd.here | apply Rd.skip))
    go_wp2_with fail
    go_ret
    exact ⟨rfl, HM.out.bel⟩
theorem told_any (k : Int) (t r : ByteArray) (h : RightV k t r) : ∀ (w : World) (hv : Vars w),
    Calls Tryz.prog 35 #[.agg #[.int .i64 k, .string t, .string r]] w fun e w' =>
      e = .returned (told (typS k t) t (caretS k t) r (if typS k t = 3 then t else ⟨#[]⟩) (if k = 3 then t else ⟨#[]⟩) (if k = 0 then t else r) (if r = ⟨#[]⟩ then ⟨#[]⟩ else t) (!r.toList.isEmpty)) ∧ Below w.heap.size w w' := by
  intro w hv
  have ht : t.size ≤ 2147483647 := by have := h.t60; omega
  have h0 := h.k0
  have h3 := h.k3
  have he : (⟨#[]⟩ : ByteArray).toList.isEmpty = true := by rw [ByteArray.toList_eq]; rfl
  have hk : k = 0 ∨ k = 1 ∨ k = 2 ∨ k = 3 := by omega
  rcases hk with rfl | rfl | rfl | rfl
  · obtain rfl := h.rk rfl
    have := of_rev 0 t ⟨#[]⟩ ht w hv t rfl
    rw [he]
    exact this
  · by_cases hr : r = ⟨#[]⟩
    · subst hr
      have := of_branch 1 t ⟨#[]⟩ ht w hv t false (by simp [verV, unpV])
      rw [he]
      exact this
    · have := of_pbranch 1 t r ht w hv t false r (by simp [verV, unpV, hr])
      have e : r.toList.isEmpty = false := isEmpty_false (size_pos hr)
      rw [e, if_neg hr]
      exact this
  · by_cases hr : r = ⟨#[]⟩
    · subst hr
      have := of_branch 2 t ⟨#[]⟩ ht w hv t true (by simp [verV, unpV])
      rw [he]
      exact this
    · have := of_pbranch 2 t r ht w hv t true r (by simp [verV, unpV, hr])
      have e : r.toList.isEmpty = false := isEmpty_false (size_pos hr)
      rw [e, if_neg hr]
      exact this
  · have hty : typS 3 t = if (qSemB0 t.data.toList).isSome then 2 else 1 := rfl
    cases hq : qSemB0 t.data.toList with
    | none =>
      have hn := new_plain hq
      have ec : caretS 3 t = t := by unfold caretS; rw [hty, hq]; rfl
      have et : typS 3 t = 1 := by rw [hty, hq]; rfl
      rw [ec, et]
      by_cases hr : r = ⟨#[]⟩
      · subst hr
        have := of_plain 3 t ⟨#[]⟩ ht w hv t (by rw [ver3, hn])
        rw [he]
        exact this
      · have := of_pplain 3 t r ht w hv t r (by simp [verV, unpV, hr, hn])
        have e : r.toList.isEmpty = false := isEmpty_false (size_pos hr)
        rw [e, if_neg hr]
        exact this
    | some q =>
      have hs : (qSemB0 t.data.toList).isSome = true := by rw [hq]; rfl
      have et : typS 3 t = 2 := by rw [hty, hq]; rfl
      have ec : caretS 3 t = ⟨#[61]⟩ ++ semB (svOf t) := by unfold caretS; rw [if_pos et]
      have hrd := sv_read t hs
      have hok := readV_ok' ht hrd
      have hn : newV t = .sem (svOf t) := by unfold newV; rw [hrd]
      have hcs : ¬ 9223372036854775807 < 1 + (semB (svOf t)).size := by have := semB_size _ hok.1; omega
      have ho : (svOf t).orig ≠ ⟨#[]⟩ := by
        rw [hok.2]
        intro e
        have := h.t0
        rw [e] at this
        exact absurd this (by decide)
      rw [ec, et]
      by_cases hr : r = ⟨#[]⟩
      · subst hr
        have := of_sem 3 t ⟨#[]⟩ ht w hv (svOf t) hok.1 ho hcs (by rw [ver3, hn])
        rw [hok.2] at this
        rw [he]
        exact this
      · have := of_psem 3 t r ht w hv (svOf t) hok.1 ho hcs r (by simp [verV, unpV, hr, hn])
        rw [hok.2] at this
        have e : r.toList.isEmpty = false := isEmpty_false (size_pos hr)
        rw [e, if_neg hr]
        exact this
end Go.Proofs.YtgoeiflddikihaaGreatDoor.Ver
end
section
namespace Go.Proofs.YtgoeiflddikihaaGreatDoor.Ver
set_option linter.unusedSimpArgs false
set_option linter.unusedVariables false
open Go.Sort Go.RowKit Go.Proofs.YtgoeiflddikihaaGreatDoor.Dig Go.Proofs.YtgoeiflddikihaaGreatDoorW.PrintWords Go.Proofs.YtgoeiflddikihaaGreatDoor.Mem Go.Proofs.YtgoeiflddikihaaGreatDoor.Ord Go.Proofs.YtgoeiflddikihaaGreatDoor.PFnVersion
instance : RowC Tryz.prog 27 3 := ⟨⟨_, Tryz.underlying27, rfl⟩, by kernel_rfl⟩
instance : RowC Tryz.prog 54 9 := ⟨⟨_, Tryz.underlying54, rfl⟩, by kernel_rfl⟩
instance : ZeroC Tryz.prog 54 zTold := ⟨by kernel_rfl⟩
instance : OneC Tryz.prog 4 := ⟨⟨_, Tryz.underlying4, rfl⟩, by kernel_rfl⟩
theorem toldOne (x : Int) (a b c d e f g : ByteArray) (p : Bool) : (#[.int .i64 x, .string a, .string b, .string c, .string d, .string e, .string f, .string g, .bool p] : Array Value).all (·.oneCell') = true := by
  simp [Value.oneCell']
theorem fits1_f (k : Int) (t r : ByteArray) : ∃ b, laws_zzFits1.f k t r = some b ∧ (b = true → t.size ≤ 2147483647 ∧ r.size ≤ 2147483647) := by
  by_cases c1 : (t.size : Int) > 2147483647
  · exact ⟨false, by rw [laws_zzFits1.f, if_pos c1], fun h => by cases h⟩
  · by_cases c2 : (r.size : Int) > 2147483647
    · exact ⟨false, by rw [laws_zzFits1.f, if_neg c1, if_pos c2], fun h => by cases h⟩
    · exact ⟨true, by rw [laws_zzFits1.f, if_neg c1, if_neg c2], fun _ => ⟨by omega, by omega⟩⟩
theorem ver_val {k : Int} {t r : ByteArray} (h : RightV k t r) : (typS k t = 0 ∧ (if k = 0 then t else r) = t ∧ (if typS k t = 3 then t else ⟨#[]⟩) = ⟨#[]⟩ ∧ (if k = 3 then t else ⟨#[]⟩) = (⟨#[]⟩ : ByteArray)) ∨ (typS k t = 3 ∧ (if k = 0 then t else r) = r ∧ (if typS k t = 3 then t else ⟨#[]⟩) = t ∧ (if k = 3 then t else ⟨#[]⟩) = (⟨#[]⟩ : ByteArray)) ∨
    ((typS k t ≠ 0 ∧ typS k t ≠ 3) ∧ (if k = 0 then t else r) = r ∧ (if typS k t = 3 then t else ⟨#[]⟩) = ⟨#[]⟩ ∧ (if k = 3 then t else ⟨#[]⟩) = t) := by
  have h0 := h.k0
  have h3 := h.k3
  have hk : k = 0 ∨ k = 1 ∨ k = 2 ∨ k = 3 := by omega
  rcases hk with rfl | rfl | rfl | rfl
  · exact Or.inl ⟨rfl, rfl, rfl, rfl⟩
  · exact Or.inr (Or.inl ⟨rfl, rfl, rfl, rfl⟩)
  · exact Or.inr (Or.inl ⟨rfl, rfl, rfl, rfl⟩)
  · have e : typS 3 t = if (qSemB0 t.data.toList).isSome then 2 else 1 := rfl
    refine Or.inr (Or.inr ⟨?_, rfl, ?_, rfl⟩)
    · rw [e]; split <;> decide
    · rw [e]; split <;> rfl
set_option maxRecDepth 20000 in
set_option maxHeartbeats 4000000 in
theorem ver_law (k : Int) (t r : ByteArray) (w : World) {G : Prop} (_ : G) (hv : Vars w) :
    Calls Tryz.prog 12 #[.agg #[.int .i64 k, .string t, .string r]] w fun e w' => e = .returned (.bool true) ∧ Below w.heap.size w w' := by
  have HM := Aside0.mk (Blks.start w)
  have HA := Lib.hid (fun W (hb : Below w.heap.size w W) => awake W (Vars.below (w := w) hv hb))
  have HO := Lib.hid (fun W => laws_verOf.calls k t r k t r W rfl)
  obtain ⟨b0, hf0, hfit⟩ := fits1_f k t r
  have HZ := Lib.hid (fun W => laws_zzFits1.calls k t r b0 W hf0)
  cases b0 with
  | false =>
    clear hf0 hfit hv
    go_enter Tryz.func12, Tryz.ntmps12
    go_wp2_with (first | (refine m_box (by repeat (first | exact HM.out | apply Blks.drewN | apply Blks.drew | apply Blks.other)) (h := ?_); intro ba wq HN; clear HM; have HM := HN; clear HN) | (refine m_load (by repeat (first | exact HM.out | apply Blks.drewN | apply Blks.drew | apply Blks.other)) (h := ?_)) | (refine m_load1 (by repeat (first | exact HM.out | apply Blks.drewN | apply Blks.drew | apply Blks.other)) (h := ?_)) | (go_at_call 31; ((with_reducible refine (HZ.out _).mono ?_); rintro e w1 ⟨rfl, hb⟩; have HN := Aside0.mk (Blks.call (by repeat (first | exact HM.out | apply Blks.drewN | apply Blks.drew | apply Blks.other)) hb); clear HM hb; have HM := HN; clear HN)))
    go_ret
    exact ⟨rfl, HM.out.bel⟩
  | true =>
    obtain ⟨hl1, hl2⟩ := hfit rfl
    obtain ⟨b1, k1, hf1, hri⟩ := isV_f k t r (by omega) (by omega)
    have HI := Lib.hid (fun W => spec_IsV.calls k1 k t r b1 W (hf1 k1 (Nat.le_refl _)))
    cases b1 with
    | false =>
      clear hf0 hfit hv hf1 hri hl1 hl2
      go_enter Tryz.func12, Tryz.ntmps12
      go_wp2_with (first | (refine m_box (by repeat (first | exact HM.out | apply Blks.drewN | apply Blks.drew | apply Blks.other)) (h := ?_); intro ba wq HN; clear HM; have HM := HN; clear HN) | (refine m_load (by repeat (first | exact HM.out | apply Blks.drewN | apply Blks.drew | apply Blks.other)) (h := ?_)) | (refine m_load1 (by repeat (first | exact HM.out | apply Blks.drewN | apply Blks.drew | apply Blks.other)) (h := ?_)) | (go_at_call 31; ((with_reducible refine (HZ.out _).mono ?_); rintro e w1 ⟨rfl, hb⟩; have HN := Aside0.mk (Blks.call (by repeat (first | exact HM.out | apply Blks.drewN | apply Blks.drew | apply Blks.other)) hb); clear HM hb; have HM := HN; clear HN)) | (go_at_call 29; ((with_reducible refine (HO.out _).mono ?_); rintro e w1 ⟨rfl, hb⟩; have HN := Aside0.mk (Blks.call (by repeat (first | exact HM.out | apply Blks.drewN | apply Blks.drew | apply Blks.other)) hb); clear HM hb; have HM := HN; clear HN)) | (go_at_call 32; ((with_reducible refine (HI.out _).mono ?_); rintro e w1 ⟨rfl, hb⟩; have HN := Aside0.mk (Blks.call (by repeat (first | exact HM.out | apply Blks.drewN | apply Blks.drew | apply Blks.other)) hb); clear HM hb; have HM := HN; clear HN)) | (go_at_call 25; ((with_reducible refine (HA.out _ (Blks.bel (by repeat (first | exact HM.out | apply Blks.drewN | apply Blks.drew | apply Blks.other)))).mono ?_); rintro e w1 ⟨rfl, hb⟩; have HN := Aside0.mk (Blks.call (by repeat (first | exact HM.out | apply Blks.drewN | apply Blks.drew | apply Blks.other)) hb); clear HM hb; have HM := HN; clear HN)))
      go_ret
      exact ⟨rfl, HM.out.bel⟩
    | true =>
      have hrt := hri rfl
      have HTD := Lib.hid (fun W (hb : Below w.heap.size w W) => told_any k t r hrt W (Vars.below (w := w) hv hb))
      have HT := Lib.hid (fun W => type_any k t r ⟨hrt.k0, hrt.k3⟩ (Nat.le_trans hrt.t60 (by decide)) W)
      have HCT := Lib.hid (fun W => caret_any k t r ⟨hrt.k0, hrt.k3⟩ (Nat.le_trans hrt.t60 (by decide)) W)
      have hval := ver_val hrt
      have hpd : (!r.toList.isEmpty) = (!r.toList.isEmpty) := rfl
      have hup : (!r.toList.isEmpty) = true → (if r = ⟨#[]⟩ then ⟨#[]⟩ else t) = t := fun h => by
        rw [if_neg]
        rintro rfl
        rw [ByteArray.toList_eq] at h
        cases h
      clear hf0 hfit hv hf1 hri hl1 hl2 hrt
      generalize caretS k t = ct at *
      generalize hbr : (if typS k t = 3 then t else ⟨#[]⟩) = br at *
      generalize (if k = 3 then t else ⟨#[]⟩) = vs at *
      generalize (if k = 0 then t else r) = un at *
      generalize (if r = ⟨#[]⟩ then ⟨#[]⟩ else t) = up at *
      clear hbr
      generalize typS k t = ty at *
      generalize hpd2 : (!r.toList.isEmpty) = pd at *
      have HVAL := Lib.hid hval
      have HPD := Lib.hid hpd2
      have HUP := Lib.hid hup
      clear hval hpd hpd2 hup
      go_enter Tryz.func12, Tryz.ntmps12
      go_upto_region 5 with (first | (refine m_box (by repeat (first | exact HM.out | apply Blks.drewN | apply Blks.drew | apply Blks.other)) (h := ?_); intro ba wq HN; clear HM; have HM := HN; clear HN) | (refine m_load (by repeat (first | exact HM.out | apply Blks.drewN | apply Blks.drew | apply Blks.other)) (h := ?_)) | (refine m_load1 (by repeat (first | exact HM.out | apply Blks.drewN | apply Blks.drew | apply Blks.other)) (h := ?_)) | (go_at_call 31; ((with_reducible refine (HZ.out _).mono ?_); rintro e w1 ⟨rfl, hb⟩; have HN := Aside0.mk (Blks.call (by repeat (first | exact HM.out | apply Blks.drewN | apply Blks.drew | apply Blks.other)) hb); clear HM hb; have HM := HN; clear HN)) | (go_at_call 29; ((with_reducible refine (HO.out _).mono ?_); rintro e w1 ⟨rfl, hb⟩; have HN := Aside0.mk (Blks.call (by repeat (first | exact HM.out | apply Blks.drewN | apply Blks.drew | apply Blks.other)) hb); clear HM hb; have HM := HN; clear HN)) | (go_at_call 32; ((with_reducible refine (HI.out _).mono ?_); rintro e w1 ⟨rfl, hb⟩; have HN := Aside0.mk (Blks.call (by repeat (first | exact HM.out | apply Blks.drewN | apply Blks.drew | apply Blks.other)) hb); clear HM hb; have HM := HN; clear HN)) | (go_at_call 25; ((with_reducible refine (HA.out _ (Blks.bel (by repeat (first | exact HM.out | apply Blks.drewN | apply Blks.drew | apply Blks.other)))).mono ?_); rintro e w1 ⟨rfl, hb⟩; have HN := Aside0.mk (Blks.call (by repeat (first | exact HM.out | apply Blks.drewN | apply Blks.drew | apply Blks.other)) hb); clear HM hb; have HM := HN; clear HN)))
      go_cut [3, 4] from 3 to 20 (fun v3 v4 wx => ∃ b3, v3 = .pointer (some ⟨b3, 0, none⟩) ∧ v4 = .int .i64 ty ∧ Aside0 (Blks w wx [(b3, [.int .i64 ty, .string t, .string ct, .string r, .string br, .string vs, .string un, .string up, .bool pd], 54), (ba, [.int .i64 k, .string t, .string r], 27)]))
      case first =>
        refine wp_region_held_drew (S := fun w' => Blks w w' [(ba, [.int .i64 k, .string t, .string r], 27)]) (by kernel_rfl) (by repeat (first | exact HM.out | apply Blks.drewN | apply Blks.drew | apply Blks.other)) (fun hS => ?_)
        have HN := Aside0.mk hS
        clear hS HM
        have HM := HN
        clear HN
        refine wpAnyH_take (i := 0) (v := .agg #[.int .i64 k, .string t, .string r]) rfl (by kernel_rfl) (by kernel_rfl) (by kernel_rfl) (fun _ _ _ h => h) (d_load (w0 := w) (by rfl) (by rfl) (fun w h => h) (by repeat (first | exact List.Mem.head _ | apply List.Mem.tail)) (by repeat (first | exact Rd.nil | apply Rd.here | apply Rd.skip))) HM.out ?_
        (try simp only [Act.put, List.setIfInBounds_toArray, List.set_cons_zero, List.set_cons_succ])
        refine wpAnyH_take (i := 2) (v := .agg #[.int .i64 k, .string t, .string r]) rfl (by kernel_rfl) (by kernel_rfl) (by kernel_rfl) (fun _ _ _ h => h) (d_load (w0 := w) (by rfl) (by rfl) (fun w h => h) (by repeat (first | exact List.Mem.head _ | apply List.Mem.tail)) (by repeat (first | exact Rd.nil | apply Rd.here | apply Rd.skip))) HM.out ?_
        (try simp only [Act.put, List.setIfInBounds_toArray, List.set_cons_zero, List.set_cons_succ])
        refine wpAnyH_ready (rs := [1, 5]) (by kernel_rfl) (by simp) ?_
        refine AllReadyH.cons rfl (fun K hK => ?_) ?_
        · skip
          go_simp
          go_wp2_with (go_at_call 35; ((with_reducible refine (HTD.out _ (Blks.bel (by repeat (first | exact HM.out | apply Blks.drewN | apply Blks.drew | apply Blks.other)))).mono ?_); rintro e w1 ⟨rfl, hb⟩; have HN := Aside0.mk (Blks.call (by repeat (first | exact HM.out | apply Blks.drewN | apply Blks.drew | apply Blks.other)) hb); clear HM hb; have HM := HN; clear HN))
          refine hK.out _ _ (HM.out.less (by repeat (first | exact List.nil_sublist _ | apply List.Sublist.cons_cons | apply List.Sublist.cons))) (fun hS => ?_)
          clear hK K
          (try simp only [Act.put, List.setIfInBounds_toArray, List.set_cons_zero, List.set_cons_succ])
          refine wpAnyH_ready (rs := [3, 5]) (by kernel_rfl) (by simp) ?_
          refine AllReadyH.cons rfl (fun K hK => ?_) ?_
          · skip
            go_simp
            go_wp2_with (go_at_call 29; ((with_reducible refine (HO.out _).mono ?_); rintro e w1 ⟨rfl, hb⟩; have HN := Aside0.mk (Blks.call (by repeat (first | exact HM.out | apply Blks.drewN | apply Blks.drew | apply Blks.other)) hb); clear HM hb; have HM := HN; clear HN))
            refine hK.out _ _ (HM.out.less (by repeat (first | exact List.nil_sublist _ | apply List.Sublist.cons_cons | apply List.Sublist.cons))) (fun hS => ?_)
            clear hK K
            (try simp only [Act.put, List.setIfInBounds_toArray, List.set_cons_zero, List.set_cons_succ])
            refine wpAnyH_ready (rs := [4, 5]) (by kernel_rfl) (by simp) ?_
            refine AllReadyH.cons rfl (fun K hK => ?_) ?_
            · skip
              go_simp
              go_wp2_with (go_at_call 44; ((with_reducible refine (HT.out _).mono ?_); rintro e w1 ⟨rfl, hb⟩; have HN := Aside0.mk (Blks.call (by repeat (first | exact HM.out | apply Blks.drewN | apply Blks.drew | apply Blks.other)) hb); clear HM hb; have HM := HN; clear HN))
              refine hK.out _ _ (HM.out.less (by repeat (first | exact List.nil_sublist _ | apply List.Sublist.cons_cons | apply List.Sublist.cons))) (fun hS => ?_)
              clear hK K
              (try simp only [Act.put, List.setIfInBounds_toArray, List.set_cons_zero, List.set_cons_succ])
              refine wpAnyH_ready (rs := [5]) (by kernel_rfl) (by simp) ?_
              refine AllReadyH.cons (o := ⟨some 3, .alloc 54, _, _, _, none⟩) rfl (fun K hK => ?_) ?_
              · skip
                refine d_alloc (by repeat (first | exact HM.out | apply Blks.drewN | apply Blks.drew | apply Blks.other)) ?_
                intro b3 wq HN
                clear HM; have HM := HN; clear HN
                refine hK.out _ _ (HM.out.less (by repeat (first | exact List.nil_sublist _ | apply List.Sublist.cons_cons | apply List.Sublist.cons))) (fun hS => ?_)
                clear hK K
                (try simp only [Act.put, List.setIfInBounds_toArray, List.set_cons_zero, List.set_cons_succ])
                refine wpAnyH_ready (rs := [6]) (by kernel_rfl) (by simp) ?_
                refine AllReadyH.cons (o := ⟨none, .store 54 (.tmp 3) (.tmp 17), _, _, _, none⟩) rfl (fun K hK => ?_) ?_
                · skip
                  refine d_store (by repeat (first | exact HM.out | apply Blks.drewN | apply Blks.drew | apply Blks.other)) (by rfl) (by rfl) (by rfl) (toldOne _ _ _ _ _ _ _ _ _) (by repeat (first | exact List.Mem.head _ | apply List.Mem.tail)) (by repeat (first | exact Wr.nil | apply Wr.here | apply Wr.skip)) (by repeat (first | exact Up.here | apply Up.skip)) ?_
                  intro wq HN
                  clear HM; have HM := HN; clear HN
                  refine hK.out _ _ (HM.out.less (by repeat (first | exact List.nil_sublist _ | apply List.Sublist.cons_cons | apply List.Sublist.cons))) (fun hS => ?_)
                  clear hK K
                  (try simp only [Act.put, List.setIfInBounds_toArray, List.set_cons_zero, List.set_cons_succ])
                  refine wpAnyH_ready (rs := [7]) (by kernel_rfl) (by simp) ?_
                  refine AllReadyH.cons (o := ⟨some 4, .assign (.tmp 20), _, _, _, none⟩) rfl (fun K hK => ?_) ?_
                  · skip
                    go_simp
                    refine hK.out _ _ (HM.out.less (by repeat (first | exact List.nil_sublist _ | apply List.Sublist.cons_cons | apply List.Sublist.cons))) (fun hS => ?_)
                    clear hK K
                    (try simp only [Act.put, List.setIfInBounds_toArray, List.set_cons_zero, List.set_cons_succ])
                    refine wpAnyH_done (by kernel_rfl) ?_ _
                    go_wp2_with fail
                    go_meet
                    case rel => exact ⟨b3, rfl, rfl, ⟨HM.out⟩⟩
                  exact AllReadyH.nil
                exact AllReadyH.nil
              exact AllReadyH.nil
            refine AllReadyH.cons (o := ⟨some 3, .alloc 54, _, _, _, none⟩) rfl (fun K hK => ?_) ?_
            · skip
              refine d_alloc (by repeat (first | exact HM.out | apply Blks.drewN | apply Blks.drew | apply Blks.other)) ?_
              intro b3 wq HN
              clear HM; have HM := HN; clear HN
              refine hK.out _ _ (HM.out.less (by repeat (first | exact List.nil_sublist _ | apply List.Sublist.cons_cons | apply List.Sublist.cons))) (fun hS => ?_)
              clear hK K
              (try simp only [Act.put, List.setIfInBounds_toArray, List.set_cons_zero, List.set_cons_succ])
              refine wpAnyH_ready (rs := [4]) (by kernel_rfl) (by simp) ?_
              refine AllReadyH.cons rfl (fun K hK => ?_) ?_
              · skip
                go_simp
                go_wp2_with (go_at_call 44; ((with_reducible refine (HT.out _).mono ?_); rintro e w1 ⟨rfl, hb⟩; have HN := Aside0.mk (Blks.call (by repeat (first | exact HM.out | apply Blks.drewN | apply Blks.drew | apply Blks.other)) hb); clear HM hb; have HM := HN; clear HN))
                refine hK.out _ _ (HM.out.less (by repeat (first | exact List.nil_sublist _ | apply List.Sublist.cons_cons | apply List.Sublist.cons))) (fun hS => ?_)
                clear hK K
                (try simp only [Act.put, List.setIfInBounds_toArray, List.set_cons_zero, List.set_cons_succ])
                refine wpAnyH_ready (rs := [6]) (by kernel_rfl) (by simp) ?_
                refine AllReadyH.cons (o := ⟨none, .store 54 (.tmp 3) (.tmp 17), _, _, _, none⟩) rfl (fun K hK => ?_) ?_
                · skip
                  refine d_store (by repeat (first | exact HM.out | apply Blks.drewN | apply Blks.drew | apply Blks.other)) (by rfl) (by rfl) (by rfl) (toldOne _ _ _ _ _ _ _ _ _) (by repeat (first | exact List.Mem.head _ | apply List.Mem.tail)) (by repeat (first | exact Wr.nil | apply Wr.here | apply Wr.skip)) (by repeat (first | exact Up.here | apply Up.skip)) ?_
                  intro wq HN
                  clear HM; have HM := HN; clear HN
                  refine hK.out _ _ (HM.out.less (by repeat (first | exact List.nil_sublist _ | apply List.Sublist.cons_cons | apply List.Sublist.cons))) (fun hS => ?_)
                  clear hK K
                  (try simp only [Act.put, List.setIfInBounds_toArray, List.set_cons_zero, List.set_cons_succ])
                  refine wpAnyH_ready (rs := [7]) (by kernel_rfl) (by simp) ?_
                  refine AllReadyH.cons (o := ⟨some 4, .assign (.tmp 20), _, _, _, none⟩) rfl (fun K hK => ?_) ?_
                  · skip
                    go_simp
                    refine hK.out _ _ (HM.out.less (by repeat (first | exact List.nil_sublist _ | apply List.Sublist.cons_cons | apply List.Sublist.cons))) (fun hS => ?_)
                    clear hK K
                    (try simp only [Act.put, List.setIfInBounds_toArray, List.set_cons_zero, List.set_cons_succ])
                    refine wpAnyH_done (by kernel_rfl) ?_ _
                    go_wp2_with fail
                    go_meet
                    case rel => exact ⟨b3, rfl, rfl, ⟨HM.out⟩⟩
                  exact AllReadyH.nil
                exact AllReadyH.nil
              exact AllReadyH.nil
            exact AllReadyH.nil
          refine AllReadyH.cons (o := ⟨some 3, .alloc 54, _, _, _, none⟩) rfl (fun K hK => ?_) ?_
          · skip
            refine d_alloc (by repeat (first | exact HM.out | apply Blks.drewN | apply Blks.drew | apply Blks.other)) ?_
            intro b3 wq HN
            clear HM; have HM := HN; clear HN
            refine hK.out _ _ (HM.out.less (by repeat (first | exact List.nil_sublist _ | apply List.Sublist.cons_cons | apply List.Sublist.cons))) (fun hS => ?_)
            clear hK K
            (try simp only [Act.put, List.setIfInBounds_toArray, List.set_cons_zero, List.set_cons_succ])
            refine wpAnyH_ready (rs := [3]) (by kernel_rfl) (by simp) ?_
            refine AllReadyH.cons rfl (fun K hK => ?_) ?_
            · skip
              go_simp
              go_wp2_with (go_at_call 29; ((with_reducible refine (HO.out _).mono ?_); rintro e w1 ⟨rfl, hb⟩; have HN := Aside0.mk (Blks.call (by repeat (first | exact HM.out | apply Blks.drewN | apply Blks.drew | apply Blks.other)) hb); clear HM hb; have HM := HN; clear HN))
              refine hK.out _ _ (HM.out.less (by repeat (first | exact List.nil_sublist _ | apply List.Sublist.cons_cons | apply List.Sublist.cons))) (fun hS => ?_)
              clear hK K
              (try simp only [Act.put, List.setIfInBounds_toArray, List.set_cons_zero, List.set_cons_succ])
              refine wpAnyH_ready (rs := [4]) (by kernel_rfl) (by simp) ?_
              refine AllReadyH.cons rfl (fun K hK => ?_) ?_
              · skip
                go_simp
                go_wp2_with (go_at_call 44; ((with_reducible refine (HT.out _).mono ?_); rintro e w1 ⟨rfl, hb⟩; have HN := Aside0.mk (Blks.call (by repeat (first | exact HM.out | apply Blks.drewN | apply Blks.drew | apply Blks.other)) hb); clear HM hb; have HM := HN; clear HN))
                refine hK.out _ _ (HM.out.less (by repeat (first | exact List.nil_sublist _ | apply List.Sublist.cons_cons | apply List.Sublist.cons))) (fun hS => ?_)
                clear hK K
                (try simp only [Act.put, List.setIfInBounds_toArray, List.set_cons_zero, List.set_cons_succ])
                refine wpAnyH_ready (rs := [6]) (by kernel_rfl) (by simp) ?_
                refine AllReadyH.cons (o := ⟨none, .store 54 (.tmp 3) (.tmp 17), _, _, _, none⟩) rfl (fun K hK => ?_) ?_
                · skip
                  refine d_store (by repeat (first | exact HM.out | apply Blks.drewN | apply Blks.drew | apply Blks.other)) (by rfl) (by rfl) (by rfl) (toldOne _ _ _ _ _ _ _ _ _) (by repeat (first | exact List.Mem.head _ | apply List.Mem.tail)) (by repeat (first | exact Wr.nil | apply Wr.here | apply Wr.skip)) (by repeat (first | exact Up.here | apply Up.skip)) ?_
                  intro wq HN
                  clear HM; have HM := HN; clear HN
                  refine hK.out _ _ (HM.out.less (by repeat (first | exact List.nil_sublist _ | apply List.Sublist.cons_cons | apply List.Sublist.cons))) (fun hS => ?_)
                  clear hK K
                  (try simp only [Act.put, List.setIfInBounds_toArray, List.set_cons_zero, List.set_cons_succ])
                  refine wpAnyH_ready (rs := [7]) (by kernel_rfl) (by simp) ?_
                  refine AllReadyH.cons (o := ⟨some 4, .assign (.tmp 20), _, _, _, none⟩) rfl (fun K hK => ?_) ?_
                  · skip
                    go_simp
                    refine hK.out _ _ (HM.out.less (by repeat (first | exact List.nil_sublist _ | apply List.Sublist.cons_cons | apply List.Sublist.cons))) (fun hS => ?_)
                    clear hK K
                    (try simp only [Act.put, List.setIfInBounds_toArray, List.set_cons_zero, List.set_cons_succ])
                    refine wpAnyH_done (by kernel_rfl) ?_ _
                    go_wp2_with fail
                    go_meet
                    case rel => exact ⟨b3, rfl, rfl, ⟨HM.out⟩⟩
                  exact AllReadyH.nil
                exact AllReadyH.nil
              exact AllReadyH.nil
            exact AllReadyH.nil
          exact AllReadyH.nil
        refine AllReadyH.cons (o := ⟨some 3, .alloc 54, _, _, _, none⟩) rfl (fun K hK => ?_) ?_
        · skip
          refine d_alloc (by repeat (first | exact HM.out | apply Blks.drewN | apply Blks.drew | apply Blks.other)) ?_
          intro b3 wq HN
          clear HM; have HM := HN; clear HN
          refine hK.out _ _ (HM.out.less (by repeat (first | exact List.nil_sublist _ | apply List.Sublist.cons_cons | apply List.Sublist.cons))) (fun hS => ?_)
          clear hK K
          (try simp only [Act.put, List.setIfInBounds_toArray, List.set_cons_zero, List.set_cons_succ])
          refine wpAnyH_ready (rs := [1]) (by kernel_rfl) (by simp) ?_
          refine AllReadyH.cons rfl (fun K hK => ?_) ?_
          · skip
            go_simp
            go_wp2_with (go_at_call 35; ((with_reducible refine (HTD.out _ (Blks.bel (by repeat (first | exact HM.out | apply Blks.drewN | apply Blks.drew | apply Blks.other)))).mono ?_); rintro e w1 ⟨rfl, hb⟩; have HN := Aside0.mk (Blks.call (by repeat (first | exact HM.out | apply Blks.drewN | apply Blks.drew | apply Blks.other)) hb); clear HM hb; have HM := HN; clear HN))
            refine hK.out _ _ (HM.out.less (by repeat (first | exact List.nil_sublist _ | apply List.Sublist.cons_cons | apply List.Sublist.cons))) (fun hS => ?_)
            clear hK K
            (try simp only [Act.put, List.setIfInBounds_toArray, List.set_cons_zero, List.set_cons_succ])
            refine wpAnyH_ready (rs := [3]) (by kernel_rfl) (by simp) ?_
            refine AllReadyH.cons rfl (fun K hK => ?_) ?_
            · skip
              go_simp
              go_wp2_with (go_at_call 29; ((with_reducible refine (HO.out _).mono ?_); rintro e w1 ⟨rfl, hb⟩; have HN := Aside0.mk (Blks.call (by repeat (first | exact HM.out | apply Blks.drewN | apply Blks.drew | apply Blks.other)) hb); clear HM hb; have HM := HN; clear HN))
              refine hK.out _ _ (HM.out.less (by repeat (first | exact List.nil_sublist _ | apply List.Sublist.cons_cons | apply List.Sublist.cons))) (fun hS => ?_)
              clear hK K
              (try simp only [Act.put, List.setIfInBounds_toArray, List.set_cons_zero, List.set_cons_succ])
              refine wpAnyH_ready (rs := [4]) (by kernel_rfl) (by simp) ?_
              refine AllReadyH.cons rfl (fun K hK => ?_) ?_
              · skip
                go_simp
                go_wp2_with (go_at_call 44; ((with_reducible refine (HT.out _).mono ?_); rintro e w1 ⟨rfl, hb⟩; have HN := Aside0.mk (Blks.call (by repeat (first | exact HM.out | apply Blks.drewN | apply Blks.drew | apply Blks.other)) hb); clear HM hb; have HM := HN; clear HN))
                refine hK.out _ _ (HM.out.less (by repeat (first | exact List.nil_sublist _ | apply List.Sublist.cons_cons | apply List.Sublist.cons))) (fun hS => ?_)
                clear hK K
                (try simp only [Act.put, List.setIfInBounds_toArray, List.set_cons_zero, List.set_cons_succ])
                refine wpAnyH_ready (rs := [6]) (by kernel_rfl) (by simp) ?_
                refine AllReadyH.cons (o := ⟨none, .store 54 (.tmp 3) (.tmp 17), _, _, _, none⟩) rfl (fun K hK => ?_) ?_
                · skip
                  refine d_store (by repeat (first | exact HM.out | apply Blks.drewN | apply Blks.drew | apply Blks.other)) (by rfl) (by rfl) (by rfl) (toldOne _ _ _ _ _ _ _ _ _) (by repeat (first | exact List.Mem.head _ | apply List.Mem.tail)) (by repeat (first | exact Wr.nil | apply Wr.here | apply Wr.skip)) (by repeat (first | exact Up.here | apply Up.skip)) ?_
                  intro wq HN
                  clear HM; have HM := HN; clear HN
                  refine hK.out _ _ (HM.out.less (by repeat (first | exact List.nil_sublist _ | apply List.Sublist.cons_cons | apply List.Sublist.cons))) (fun hS => ?_)
                  clear hK K
                  (try simp only [Act.put, List.setIfInBounds_toArray, List.set_cons_zero, List.set_cons_succ])
                  refine wpAnyH_ready (rs := [7]) (by kernel_rfl) (by simp) ?_
                  refine AllReadyH.cons (o := ⟨some 4, .assign (.tmp 20), _, _, _, none⟩) rfl (fun K hK => ?_) ?_
                  · skip
                    go_simp
                    refine hK.out _ _ (HM.out.less (by repeat (first | exact List.nil_sublist _ | apply List.Sublist.cons_cons | apply List.Sublist.cons))) (fun hS => ?_)
                    clear hK K
                    (try simp only [Act.put, List.setIfInBounds_toArray, List.set_cons_zero, List.set_cons_succ])
                    refine wpAnyH_done (by kernel_rfl) ?_ _
                    go_wp2_with fail
                    go_meet
                    case rel => exact ⟨b3, rfl, rfl, ⟨HM.out⟩⟩
                  exact AllReadyH.nil
                exact AllReadyH.nil
              exact AllReadyH.nil
            exact AllReadyH.nil
          exact AllReadyH.nil
        exact AllReadyH.nil
      case rest =>
        clear HM
        obtain ⟨b3, rfl, rfl, HM⟩ := hcut
        generalize wc = wx at *
        rcases HVAL.out with ⟨hty, hun, hbr, hvs⟩ | ⟨hty, hun, hbr, hvs⟩ | ⟨hty, hun, hbr, hvs⟩
        · skip
          have hty' := hty.symm
          subst hty'
          clear hty
          have hun' := hun.symm
          subst hun'
          clear hun
          have hbr' := hbr.symm
          subst hbr'
          clear hbr
          have hvs' := hvs.symm
          subst hvs'
          clear hvs
          cases pd with
          | false =>
            have e1 : r.toList.isEmpty = true := by simpa using HPD.out
            have k0 := Blks.cell HM.out (b := b3) (o := 0) (by repeat (first | exact List.Mem.head _ | apply List.Mem.tail)) (by repeat (first | exact Rd.nil | apply Rd.here | apply Rd.skip)); have k1 := Blks.cell HM.out (b := b3) (o := 1) (by repeat (first | exact List.Mem.head _ | apply List.Mem.tail)) (by repeat (first | exact Rd.nil | apply Rd.here | apply Rd.skip)); have k2 := Blks.cell HM.out (b := b3) (o := 2) (by repeat (first | exact List.Mem.head _ | apply List.Mem.tail)) (by repeat (first | exact Rd.nil | apply Rd.here | apply Rd.skip)); have k3 := Blks.cell HM.out (b := b3) (o := 3) (by repeat (first | exact List.Mem.head _ | apply List.Mem.tail)) (by repeat (first | exact Rd.nil | apply Rd.here | apply Rd.skip)); have k4 := Blks.cell HM.out (b := b3) (o := 4) (by repeat (first | exact List.Mem.head _ | apply List.Mem.tail)) (by repeat (first | exact Rd.nil | apply Rd.here | apply Rd.skip)); have k5 := Blks.cell HM.out (b := b3) (o := 5) (by repeat (first | exact List.Mem.head _ | apply List.Mem.tail)) (by repeat (first | exact Rd.nil | apply Rd.here | apply Rd.skip)); have k6 := Blks.cell HM.out (b := b3) (o := 6) (by repeat (first | exact List.Mem.head _ | apply List.Mem.tail)) (by repeat (first | exact Rd.nil | apply Rd.here | apply Rd.skip)); have k7 := Blks.cell HM.out (b := b3) (o := 7) (by repeat (first | exact List.Mem.head _ | apply List.Mem.tail)) (by repeat (first | exact Rd.nil | apply Rd.here | apply Rd.skip)); have k8 := Blks.cell HM.out (b := b3) (o := 8) (by repeat (first | exact List.Mem.head _ | apply List.Mem.tail)) (by repeat (first | exact Rd.nil | apply Rd.here | apply Rd.skip)); have j0 := Blks.cell HM.out (b := ba) (o := 0) (by repeat (first | exact List.Mem.head _ | apply List.Mem.tail)) (by repeat (first | exact Rd.nil | apply Rd.here | apply Rd.skip)); have j1 := Blks.cell HM.out (b := ba) (o := 1) (by repeat (first | exact List.Mem.head _ | apply List.Mem.tail)) (by repeat (first | exact Rd.nil | apply Rd.here | apply Rd.skip)); have j2 := Blks.cell HM.out (b := ba) (o := 2) (by repeat (first | exact List.Mem.head _ | apply List.Mem.tail)) (by repeat (first | exact Rd.nil | apply Rd.here | apply Rd.skip))
            go_upto_region 13 with (fail)
            clear k0 k1 k2 k3 k4 k5 k6 k7 k8 j0 j1 j2
            have HQ1 := Lib.hid (fun d os => Calls.regrown_of (HO.out (grow (redrawn wx d) os)))
            have HQ2 := Lib.hid (fun d os => Calls.regrown_of (HCT.out (grow (redrawn wx d) os)))
            have fk0 := fun d os => cell_regrown (Blks.cell HM.out (b := b3) (o := 0) (by repeat (first | exact List.Mem.head _ | apply List.Mem.tail)) (by repeat (first | exact Rd.nil | apply Rd.here | apply Rd.skip))) d os
            have fk1 := fun d os => cell_regrown (Blks.cell HM.out (b := b3) (o := 1) (by repeat (first | exact List.Mem.head _ | apply List.Mem.tail)) (by repeat (first | exact Rd.nil | apply Rd.here | apply Rd.skip))) d os
            have fk2 := fun d os => cell_regrown (Blks.cell HM.out (b := b3) (o := 2) (by repeat (first | exact List.Mem.head _ | apply List.Mem.tail)) (by repeat (first | exact Rd.nil | apply Rd.here | apply Rd.skip))) d os
            have fk3 := fun d os => cell_regrown (Blks.cell HM.out (b := b3) (o := 3) (by repeat (first | exact List.Mem.head _ | apply List.Mem.tail)) (by repeat (first | exact Rd.nil | apply Rd.here | apply Rd.skip))) d os
            have fk4 := fun d os => cell_regrown (Blks.cell HM.out (b := b3) (o := 4) (by repeat (first | exact List.Mem.head _ | apply List.Mem.tail)) (by repeat (first | exact Rd.nil | apply Rd.here | apply Rd.skip))) d os
            have fk5 := fun d os => cell_regrown (Blks.cell HM.out (b := b3) (o := 5) (by repeat (first | exact List.Mem.head _ | apply List.Mem.tail)) (by repeat (first | exact Rd.nil | apply Rd.here | apply Rd.skip))) d os
            have fk6 := fun d os => cell_regrown (Blks.cell HM.out (b := b3) (o := 6) (by repeat (first | exact List.Mem.head _ | apply List.Mem.tail)) (by repeat (first | exact Rd.nil | apply Rd.here | apply Rd.skip))) d os
            have fk7 := fun d os => cell_regrown (Blks.cell HM.out (b := b3) (o := 7) (by repeat (first | exact List.Mem.head _ | apply List.Mem.tail)) (by repeat (first | exact Rd.nil | apply Rd.here | apply Rd.skip))) d os
            have fk8 := fun d os => cell_regrown (Blks.cell HM.out (b := b3) (o := 8) (by repeat (first | exact List.Mem.head _ | apply List.Mem.tail)) (by repeat (first | exact Rd.nil | apply Rd.here | apply Rd.skip))) d os
            have fj0 := fun d os => cell_regrown (Blks.cell HM.out (b := ba) (o := 0) (by repeat (first | exact List.Mem.head _ | apply List.Mem.tail)) (by repeat (first | exact Rd.nil | apply Rd.here | apply Rd.skip))) d os
            have fj1 := fun d os => cell_regrown (Blks.cell HM.out (b := ba) (o := 1) (by repeat (first | exact List.Mem.head _ | apply List.Mem.tail)) (by repeat (first | exact Rd.nil | apply Rd.here | apply Rd.skip))) d os
            have fj2 := fun d os => cell_regrown (Blks.cell HM.out (b := ba) (o := 2) (by repeat (first | exact List.Mem.head _ | apply List.Mem.tail)) (by repeat (first | exact Rd.nil | apply Rd.here | apply Rd.skip))) d os
            refine wp_region_quiet_below (by kernel_rfl) (by kernel_rfl) ?_
            repeat (go_big_quiet_step (first | (with_reducible exact HQ1.out _ _) | (with_reducible exact HQ2.out _ _)))
            refine wpQuiet_nil ?_
            intro _ hw'
            obtain ⟨⟨dq, osq⟩, hw''⟩ := hw'
            subst hw''
            have HN := Aside0.mk (Blks.call HM.out (below_regrown _ dq osq)); clear HM; have HM := HN; clear HN
            clear fk0 fk1 fk2 fk3 fk4 fk5 fk6 fk7 fk8 fj0 fj1 fj2
            generalize grow (redrawn _ dq) osq = wz at *
            have k0 := Blks.cell HM.out (b := b3) (o := 0) (by repeat (first | exact List.Mem.head _ | apply List.Mem.tail)) (by repeat (first | exact Rd.nil | apply Rd.here | apply Rd.skip)); have k1 := Blks.cell HM.out (b := b3) (o := 1) (by repeat (first | exact List.Mem.head _ | apply List.Mem.tail)) (by repeat (first | exact Rd.nil | apply Rd.here | apply Rd.skip)); have k2 := Blks.cell HM.out (b := b3) (o := 2) (by repeat (first | exact List.Mem.head _ | apply List.Mem.tail)) (by repeat (first | exact Rd.nil | apply Rd.here | apply Rd.skip)); have k3 := Blks.cell HM.out (b := b3) (o := 3) (by repeat (first | exact List.Mem.head _ | apply List.Mem.tail)) (by repeat (first | exact Rd.nil | apply Rd.here | apply Rd.skip)); have k4 := Blks.cell HM.out (b := b3) (o := 4) (by repeat (first | exact List.Mem.head _ | apply List.Mem.tail)) (by repeat (first | exact Rd.nil | apply Rd.here | apply Rd.skip)); have k5 := Blks.cell HM.out (b := b3) (o := 5) (by repeat (first | exact List.Mem.head _ | apply List.Mem.tail)) (by repeat (first | exact Rd.nil | apply Rd.here | apply Rd.skip)); have k6 := Blks.cell HM.out (b := b3) (o := 6) (by repeat (first | exact List.Mem.head _ | apply List.Mem.tail)) (by repeat (first | exact Rd.nil | apply Rd.here | apply Rd.skip)); have k7 := Blks.cell HM.out (b := b3) (o := 7) (by repeat (first | exact List.Mem.head _ | apply List.Mem.tail)) (by repeat (first | exact Rd.nil | apply Rd.here | apply Rd.skip)); have k8 := Blks.cell HM.out (b := b3) (o := 8) (by repeat (first | exact List.Mem.head _ | apply List.Mem.tail)) (by repeat (first | exact Rd.nil | apply Rd.here | apply Rd.skip)); have j0 := Blks.cell HM.out (b := ba) (o := 0) (by repeat (first | exact List.Mem.head _ | apply List.Mem.tail)) (by repeat (first | exact Rd.nil | apply Rd.here | apply Rd.skip)); have j1 := Blks.cell HM.out (b := ba) (o := 1) (by repeat (first | exact List.Mem.head _ | apply List.Mem.tail)) (by repeat (first | exact Rd.nil | apply Rd.here | apply Rd.skip)); have j2 := Blks.cell HM.out (b := ba) (o := 2) (by repeat (first | exact List.Mem.head _ | apply List.Mem.tail)) (by repeat (first | exact Rd.nil | apply Rd.here | apply Rd.skip))
            go_upto_region 17 with (fail)
            clear k0 k1 k2 k3 k4 k5 k6 k7 k8 j0 j1 j2
            go_wp2_with ((go_at_call 25; ((with_reducible refine (HA.out _ (Blks.bel (by repeat (first | exact HM.out | apply Blks.drewN | apply Blks.drew | apply Blks.other)))).mono ?_); rintro e w1 ⟨rfl, hb⟩; have HN := Aside0.mk (Blks.call (by repeat (first | exact HM.out | apply Blks.drewN | apply Blks.drew | apply Blks.other)) hb); clear HM hb; have HM := HN; clear HN; have k0 := Blks.cell HM.out (b := b3) (o := 0) (by repeat (first | exact List.Mem.head _ | apply List.Mem.tail)) (by repeat (first | exact Rd.nil | apply Rd.here | apply Rd.skip)); have k1 := Blks.cell HM.out (b := b3) (o := 1) (by repeat (first | exact List.Mem.head _ | apply List.Mem.tail)) (by repeat (first | exact Rd.nil | apply Rd.here | apply Rd.skip)); have k2 := Blks.cell HM.out (b := b3) (o := 2) (by repeat (first | exact List.Mem.head _ | apply List.Mem.tail)) (by repeat (first | exact Rd.nil | apply Rd.here | apply Rd.skip)); have k3 := Blks.cell HM.out (b := b3) (o := 3) (by repeat (first | exact List.Mem.head _ | apply List.Mem.tail)) (by repeat (first | exact Rd.nil | apply Rd.here | apply Rd.skip)); have k4 := Blks.cell HM.out (b := b3) (o := 4) (by repeat (first | exact List.Mem.head _ | apply List.Mem.tail)) (by repeat (first | exact Rd.nil | apply Rd.here | apply Rd.skip)); have k5 := Blks.cell HM.out (b := b3) (o := 5) (by repeat (first | exact List.Mem.head _ | apply List.Mem.tail)) (by repeat (first | exact Rd.nil | apply Rd.here | apply Rd.skip)); have k6 := Blks.cell HM.out (b := b3) (o := 6) (by repeat (first | exact List.Mem.head _ | apply List.Mem.tail)) (by repeat (first | exact Rd.nil | apply Rd.here | apply Rd.skip)); have k7 := Blks.cell HM.out (b := b3) (o := 7) (by repeat (first | exact List.Mem.head _ | apply List.Mem.tail)) (by repeat (first | exact Rd.nil | apply Rd.here | apply Rd.skip)); have k8 := Blks.cell HM.out (b := b3) (o := 8) (by repeat (first | exact List.Mem.head _ | apply List.Mem.tail)) (by repeat (first | exact Rd.nil | apply Rd.here | apply Rd.skip)); have j0 := Blks.cell HM.out (b := ba) (o := 0) (by repeat (first | exact List.Mem.head _ | apply List.Mem.tail)) (by repeat (first | exact Rd.nil | apply Rd.here | apply Rd.skip)); have j1 := Blks.cell HM.out (b := ba) (o := 1) (by repeat (first | exact List.Mem.head _ | apply List.Mem.tail)) (by repeat (first | exact Rd.nil | apply Rd.here | apply Rd.skip)); have j2 := Blks.cell HM.out (b := ba) (o := 2) (by repeat (first | exact List.Mem.head _ | apply List.Mem.tail)) (by repeat (first | exact Rd.nil | apply Rd.here | apply Rd.skip)))))
            go_ret
            exact ⟨rfl, HM.out.bel⟩
          | true =>
            have e1 : r.toList.isEmpty = false := by simpa using HPD.out
            have hup := HUP.out rfl
            subst hup
            have k0 := Blks.cell HM.out (b := b3) (o := 0) (by repeat (first | exact List.Mem.head _ | apply List.Mem.tail)) (by repeat (first | exact Rd.nil | apply Rd.here | apply Rd.skip)); have k1 := Blks.cell HM.out (b := b3) (o := 1) (by repeat (first | exact List.Mem.head _ | apply List.Mem.tail)) (by repeat (first | exact Rd.nil | apply Rd.here | apply Rd.skip)); have k2 := Blks.cell HM.out (b := b3) (o := 2) (by repeat (first | exact List.Mem.head _ | apply List.Mem.tail)) (by repeat (first | exact Rd.nil | apply Rd.here | apply Rd.skip)); have k3 := Blks.cell HM.out (b := b3) (o := 3) (by repeat (first | exact List.Mem.head _ | apply List.Mem.tail)) (by repeat (first | exact Rd.nil | apply Rd.here | apply Rd.skip)); have k4 := Blks.cell HM.out (b := b3) (o := 4) (by repeat (first | exact List.Mem.head _ | apply List.Mem.tail)) (by repeat (first | exact Rd.nil | apply Rd.here | apply Rd.skip)); have k5 := Blks.cell HM.out (b := b3) (o := 5) (by repeat (first | exact List.Mem.head _ | apply List.Mem.tail)) (by repeat (first | exact Rd.nil | apply Rd.here | apply Rd.skip)); have k6 := Blks.cell HM.out (b := b3) (o := 6) (by repeat (first | exact List.Mem.head _ | apply List.Mem.tail)) (by repeat (first | exact Rd.nil | apply Rd.here | apply Rd.skip)); have k7 := Blks.cell HM.out (b := b3) (o := 7) (by repeat (first | exact List.Mem.head _ | apply List.Mem.tail)) (by repeat (first | exact Rd.nil | apply Rd.here | apply Rd.skip)); have k8 := Blks.cell HM.out (b := b3) (o := 8) (by repeat (first | exact List.Mem.head _ | apply List.Mem.tail)) (by repeat (first | exact Rd.nil | apply Rd.here | apply Rd.skip)); have j0 := Blks.cell HM.out (b := ba) (o := 0) (by repeat (first | exact List.Mem.head _ | apply List.Mem.tail)) (by repeat (first | exact Rd.nil | apply Rd.here | apply Rd.skip)); have j1 := Blks.cell HM.out (b := ba) (o := 1) (by repeat (first | exact List.Mem.head _ | apply List.Mem.tail)) (by repeat (first | exact Rd.nil | apply Rd.here | apply Rd.skip)); have j2 := Blks.cell HM.out (b := ba) (o := 2) (by repeat (first | exact List.Mem.head _ | apply List.Mem.tail)) (by repeat (first | exact Rd.nil | apply Rd.here | apply Rd.skip))
            go_upto_region 13 with (fail)
            clear k0 k1 k2 k3 k4 k5 k6 k7 k8 j0 j1 j2
            have HQ1 := Lib.hid (fun d os => Calls.regrown_of (HO.out (grow (redrawn wx d) os)))
            have HQ2 := Lib.hid (fun d os => Calls.regrown_of (HCT.out (grow (redrawn wx d) os)))
            have fk0 := fun d os => cell_regrown (Blks.cell HM.out (b := b3) (o := 0) (by repeat (first | exact List.Mem.head _ | apply List.Mem.tail)) (by repeat (first | exact Rd.nil | apply Rd.here | apply Rd.skip))) d os
            have fk1 := fun d os => cell_regrown (Blks.cell HM.out (b := b3) (o := 1) (by repeat (first | exact List.Mem.head _ | apply List.Mem.tail)) (by repeat (first | exact Rd.nil | apply Rd.here | apply Rd.skip))) d os
            have fk2 := fun d os => cell_regrown (Blks.cell HM.out (b := b3) (o := 2) (by repeat (first | exact List.Mem.head _ | apply List.Mem.tail)) (by repeat (first | exact Rd.nil | apply Rd.here | apply Rd.skip))) d os
            have fk3 := fun d os => cell_regrown (Blks.cell HM.out (b := b3) (o := 3) (by repeat (first | exact List.Mem.head _ | apply List.Mem.tail)) (by repeat (first | exact Rd.nil | apply Rd.here | apply Rd.skip))) d os
            have fk4 := fun d os => cell_regrown (Blks.cell HM.out (b := b3) (o := 4) (by repeat (first | exact List.Mem.head _ | apply List.Mem.tail)) (by repeat (first | exact Rd.nil | apply Rd.here | apply Rd.skip))) d os
            have fk5 := fun d os => cell_regrown (Blks.cell HM.out (b := b3) (o := 5) (by repeat (first | exact List.Mem.head _ | apply List.Mem.tail)) (by repeat (first | exact Rd.nil | apply Rd.here | apply Rd.skip))) d os
            have fk6 := fun d os => cell_regrown (Blks.cell HM.out (b := b3) (o := 6) (by repeat (first | exact List.Mem.head _ | apply List.Mem.tail)) (by repeat (first | exact Rd.nil | apply Rd.here | apply Rd.skip))) d os
            have fk7 := fun d os => cell_regrown (Blks.cell HM.out (b := b3) (o := 7) (by repeat (first | exact List.Mem.head _ | apply List.Mem.tail)) (by repeat (first | exact Rd.nil | apply Rd.here | apply Rd.skip))) d os
            have fk8 := fun d os => cell_regrown (Blks.cell HM.out (b := b3) (o := 8) (by repeat (first | exact List.Mem.head _ | apply List.Mem.tail)) (by repeat (first | exact Rd.nil | apply Rd.here | apply Rd.skip))) d os
            have fj0 := fun d os => cell_regrown (Blks.cell HM.out (b := ba) (o := 0) (by repeat (first | exact List.Mem.head _ | apply List.Mem.tail)) (by repeat (first | exact Rd.nil | apply Rd.here | apply Rd.skip))) d os
            have fj1 := fun d os => cell_regrown (Blks.cell HM.out (b := ba) (o := 1) (by repeat (first | exact List.Mem.head _ | apply List.Mem.tail)) (by repeat (first | exact Rd.nil | apply Rd.here | apply Rd.skip))) d os
            have fj2 := fun d os => cell_regrown (Blks.cell HM.out (b := ba) (o := 2) (by repeat (first | exact List.Mem.head _ | apply List.Mem.tail)) (by repeat (first | exact Rd.nil | apply Rd.here | apply Rd.skip))) d os
            refine wp_region_quiet_below (by kernel_rfl) (by kernel_rfl) ?_
            repeat (go_big_quiet_step (first | (with_reducible exact HQ1.out _ _) | (with_reducible exact HQ2.out _ _)))
            refine wpQuiet_nil ?_
            intro _ hw'
            obtain ⟨⟨dq, osq⟩, hw''⟩ := hw'
            subst hw''
            have HN := Aside0.mk (Blks.call HM.out (below_regrown _ dq osq)); clear HM; have HM := HN; clear HN
            clear fk0 fk1 fk2 fk3 fk4 fk5 fk6 fk7 fk8 fj0 fj1 fj2
            generalize grow (redrawn _ dq) osq = wz at *
            have k0 := Blks.cell HM.out (b := b3) (o := 0) (by repeat (first | exact List.Mem.head _ | apply List.Mem.tail)) (by repeat (first | exact Rd.nil | apply Rd.here | apply Rd.skip)); have k1 := Blks.cell HM.out (b := b3) (o := 1) (by repeat (first | exact List.Mem.head _ | apply List.Mem.tail)) (by repeat (first | exact Rd.nil | apply Rd.here | apply Rd.skip)); have k2 := Blks.cell HM.out (b := b3) (o := 2) (by repeat (first | exact List.Mem.head _ | apply List.Mem.tail)) (by repeat (first | exact Rd.nil | apply Rd.here | apply Rd.skip)); have k3 := Blks.cell HM.out (b := b3) (o := 3) (by repeat (first | exact List.Mem.head _ | apply List.Mem.tail)) (by repeat (first | exact Rd.nil | apply Rd.here | apply Rd.skip)); have k4 := Blks.cell HM.out (b := b3) (o := 4) (by repeat (first | exact List.Mem.head _ | apply List.Mem.tail)) (by repeat (first | exact Rd.nil | apply Rd.here | apply Rd.skip)); have k5 := Blks.cell HM.out (b := b3) (o := 5) (by repeat (first | exact List.Mem.head _ | apply List.Mem.tail)) (by repeat (first | exact Rd.nil | apply Rd.here | apply Rd.skip)); have k6 := Blks.cell HM.out (b := b3) (o := 6) (by repeat (first | exact List.Mem.head _ | apply List.Mem.tail)) (by repeat (first | exact Rd.nil | apply Rd.here | apply Rd.skip)); have k7 := Blks.cell HM.out (b := b3) (o := 7) (by repeat (first | exact List.Mem.head _ | apply List.Mem.tail)) (by repeat (first | exact Rd.nil | apply Rd.here | apply Rd.skip)); have k8 := Blks.cell HM.out (b := b3) (o := 8) (by repeat (first | exact List.Mem.head _ | apply List.Mem.tail)) (by repeat (first | exact Rd.nil | apply Rd.here | apply Rd.skip)); have j0 := Blks.cell HM.out (b := ba) (o := 0) (by repeat (first | exact List.Mem.head _ | apply List.Mem.tail)) (by repeat (first | exact Rd.nil | apply Rd.here | apply Rd.skip)); have j1 := Blks.cell HM.out (b := ba) (o := 1) (by repeat (first | exact List.Mem.head _ | apply List.Mem.tail)) (by repeat (first | exact Rd.nil | apply Rd.here | apply Rd.skip)); have j2 := Blks.cell HM.out (b := ba) (o := 2) (by repeat (first | exact List.Mem.head _ | apply List.Mem.tail)) (by repeat (first | exact Rd.nil | apply Rd.here | apply Rd.skip))
            go_upto_region 17 with (fail)
            clear k0 k1 k2 k3 k4 k5 k6 k7 k8 j0 j1 j2
            go_wp2_with ((go_at_call 25; ((with_reducible refine (HA.out _ (Blks.bel (by repeat (first | exact HM.out | apply Blks.drewN | apply Blks.drew | apply Blks.other)))).mono ?_); rintro e w1 ⟨rfl, hb⟩; have HN := Aside0.mk (Blks.call (by repeat (first | exact HM.out | apply Blks.drewN | apply Blks.drew | apply Blks.other)) hb); clear HM hb; have HM := HN; clear HN; have k0 := Blks.cell HM.out (b := b3) (o := 0) (by repeat (first | exact List.Mem.head _ | apply List.Mem.tail)) (by repeat (first | exact Rd.nil | apply Rd.here | apply Rd.skip)); have k1 := Blks.cell HM.out (b := b3) (o := 1) (by repeat (first | exact List.Mem.head _ | apply List.Mem.tail)) (by repeat (first | exact Rd.nil | apply Rd.here | apply Rd.skip)); have k2 := Blks.cell HM.out (b := b3) (o := 2) (by repeat (first | exact List.Mem.head _ | apply List.Mem.tail)) (by repeat (first | exact Rd.nil | apply Rd.here | apply Rd.skip)); have k3 := Blks.cell HM.out (b := b3) (o := 3) (by repeat (first | exact List.Mem.head _ | apply List.Mem.tail)) (by repeat (first | exact Rd.nil | apply Rd.here | apply Rd.skip)); have k4 := Blks.cell HM.out (b := b3) (o := 4) (by repeat (first | exact List.Mem.head _ | apply List.Mem.tail)) (by repeat (first | exact Rd.nil | apply Rd.here | apply Rd.skip)); have k5 := Blks.cell HM.out (b := b3) (o := 5) (by repeat (first | exact List.Mem.head _ | apply List.Mem.tail)) (by repeat (first | exact Rd.nil | apply Rd.here | apply Rd.skip)); have k6 := Blks.cell HM.out (b := b3) (o := 6) (by repeat (first | exact List.Mem.head _ | apply List.Mem.tail)) (by repeat (first | exact Rd.nil | apply Rd.here | apply Rd.skip)); have k7 := Blks.cell HM.out (b := b3) (o := 7) (by repeat (first | exact List.Mem.head _ | apply List.Mem.tail)) (by repeat (first | exact Rd.nil | apply Rd.here | apply Rd.skip)); have k8 := Blks.cell HM.out (b := b3) (o := 8) (by repeat (first | exact List.Mem.head _ | apply List.Mem.tail)) (by repeat (first | exact Rd.nil | apply Rd.here | apply Rd.skip)); have j0 := Blks.cell HM.out (b := ba) (o := 0) (by repeat (first | exact List.Mem.head _ | apply List.Mem.tail)) (by repeat (first | exact Rd.nil | apply Rd.here | apply Rd.skip)); have j1 := Blks.cell HM.out (b := ba) (o := 1) (by repeat (first | exact List.Mem.head _ | apply List.Mem.tail)) (by repeat (first | exact Rd.nil | apply Rd.here | apply Rd.skip)); have j2 := Blks.cell HM.out (b := ba) (o := 2) (by repeat (first | exact List.Mem.head _ | apply List.Mem.tail)) (by repeat (first | exact Rd.nil | apply Rd.here | apply Rd.skip)))))
            go_ret
            exact ⟨rfl, HM.out.bel⟩
        · skip
          have hty' := hty.symm
          subst hty'
          clear hty
          have hun' := hun.symm
          subst hun'
          clear hun
          have hbr' := hbr.symm
          subst hbr'
          clear hbr
          have hvs' := hvs.symm
          subst hvs'
          clear hvs
          cases pd with
          | false =>
            have e1 : r.toList.isEmpty = true := by simpa using HPD.out
            have k0 := Blks.cell HM.out (b := b3) (o := 0) (by repeat (first | exact List.Mem.head _ | apply List.Mem.tail)) (by repeat (first | exact Rd.nil | apply Rd.here | apply Rd.skip)); have k1 := Blks.cell HM.out (b := b3) (o := 1) (by repeat (first | exact List.Mem.head _ | apply List.Mem.tail)) (by repeat (first | exact Rd.nil | apply Rd.here | apply Rd.skip)); have k2 := Blks.cell HM.out (b := b3) (o := 2) (by repeat (first | exact List.Mem.head _ | apply List.Mem.tail)) (by repeat (first | exact Rd.nil | apply Rd.here | apply Rd.skip)); have k3 := Blks.cell HM.out (b := b3) (o := 3) (by repeat (first | exact List.Mem.head _ | apply List.Mem.tail)) (by repeat (first | exact Rd.nil | apply Rd.here | apply Rd.skip)); have k4 := Blks.cell HM.out (b := b3) (o := 4) (by repeat (first | exact List.Mem.head _ | apply List.Mem.tail)) (by repeat (first | exact Rd.nil | apply Rd.here | apply Rd.skip)); have k5 := Blks.cell HM.out (b := b3) (o := 5) (by repeat (first | exact List.Mem.head _ | apply List.Mem.tail)) (by repeat (first | exact Rd.nil | apply Rd.here | apply Rd.skip)); have k6 := Blks.cell HM.out (b := b3) (o := 6) (by repeat (first | exact List.Mem.head _ | apply List.Mem.tail)) (by repeat (first | exact Rd.nil | apply Rd.here | apply Rd.skip)); have k7 := Blks.cell HM.out (b := b3) (o := 7) (by repeat (first | exact List.Mem.head _ | apply List.Mem.tail)) (by repeat (first | exact Rd.nil | apply Rd.here | apply Rd.skip)); have k8 := Blks.cell HM.out (b := b3) (o := 8) (by repeat (first | exact List.Mem.head _ | apply List.Mem.tail)) (by repeat (first | exact Rd.nil | apply Rd.here | apply Rd.skip)); have j0 := Blks.cell HM.out (b := ba) (o := 0) (by repeat (first | exact List.Mem.head _ | apply List.Mem.tail)) (by repeat (first | exact Rd.nil | apply Rd.here | apply Rd.skip)); have j1 := Blks.cell HM.out (b := ba) (o := 1) (by repeat (first | exact List.Mem.head _ | apply List.Mem.tail)) (by repeat (first | exact Rd.nil | apply Rd.here | apply Rd.skip)); have j2 := Blks.cell HM.out (b := ba) (o := 2) (by repeat (first | exact List.Mem.head _ | apply List.Mem.tail)) (by repeat (first | exact Rd.nil | apply Rd.here | apply Rd.skip))
            go_upto_region 13 with (fail)
            clear k0 k1 k2 k3 k4 k5 k6 k7 k8 j0 j1 j2
            have HQ1 := Lib.hid (fun d os => Calls.regrown_of (HO.out (grow (redrawn wx d) os)))
            have HQ2 := Lib.hid (fun d os => Calls.regrown_of (HCT.out (grow (redrawn wx d) os)))
            have fk0 := fun d os => cell_regrown (Blks.cell HM.out (b := b3) (o := 0) (by repeat (first | exact List.Mem.head _ | apply List.Mem.tail)) (by repeat (first | exact Rd.nil | apply Rd.here | apply Rd.skip))) d os
            have fk1 := fun d os => cell_regrown (Blks.cell HM.out (b := b3) (o := 1) (by repeat (first | exact List.Mem.head _ | apply List.Mem.tail)) (by repeat (first | exact Rd.nil | apply Rd.here | apply Rd.skip))) d os
            have fk2 := fun d os => cell_regrown (Blks.cell HM.out (b := b3) (o := 2) (by repeat (first | exact List.Mem.head _ | apply List.Mem.tail)) (by repeat (first | exact Rd.nil | apply Rd.here | apply Rd.skip))) d os
            have fk3 := fun d os => cell_regrown (Blks.cell HM.out (b := b3) (o := 3) (by repeat (first | exact List.Mem.head _ | apply List.Mem.tail)) (by repeat (first | exact Rd.nil | apply Rd.here | apply Rd.skip))) d os
            have fk4 := fun d os => cell_regrown (Blks.cell HM.out (b := b3) (o := 4) (by repeat (first | exact List.Mem.head _ | apply List.Mem.tail)) (by repeat (first | exact Rd.nil | apply Rd.here | apply Rd.skip))) d os
            have fk5 := fun d os => cell_regrown (Blks.cell HM.out (b := b3) (o := 5) (by repeat (first | exact List.Mem.head _ | apply List.Mem.tail)) (by repeat (first | exact Rd.nil | apply Rd.here | apply Rd.skip))) d os
            have fk6 := fun d os => cell_regrown (Blks.cell HM.out (b := b3) (o := 6) (by repeat (first | exact List.Mem.head _ | apply List.Mem.tail)) (by repeat (first | exact Rd.nil | apply Rd.here | apply Rd.skip))) d os
            have fk7 := fun d os => cell_regrown (Blks.cell HM.out (b := b3) (o := 7) (by repeat (first | exact List.Mem.head _ | apply List.Mem.tail)) (by repeat (first | exact Rd.nil | apply Rd.here | apply Rd.skip))) d os
            have fk8 := fun d os => cell_regrown (Blks.cell HM.out (b := b3) (o := 8) (by repeat (first | exact List.Mem.head _ | apply List.Mem.tail)) (by repeat (first | exact Rd.nil | apply Rd.here | apply Rd.skip))) d os
            have fj0 := fun d os => cell_regrown (Blks.cell HM.out (b := ba) (o := 0) (by repeat (first | exact List.Mem.head _ | apply List.Mem.tail)) (by repeat (first | exact Rd.nil | apply Rd.here | apply Rd.skip))) d os
            have fj1 := fun d os => cell_regrown (Blks.cell HM.out (b := ba) (o := 1) (by repeat (first | exact List.Mem.head _ | apply List.Mem.tail)) (by repeat (first | exact Rd.nil | apply Rd.here | apply Rd.skip))) d os
            have fj2 := fun d os => cell_regrown (Blks.cell HM.out (b := ba) (o := 2) (by repeat (first | exact List.Mem.head _ | apply List.Mem.tail)) (by repeat (first | exact Rd.nil | apply Rd.here | apply Rd.skip))) d os
            refine wp_region_quiet_below (by kernel_rfl) (by kernel_rfl) ?_
            repeat (go_big_quiet_step (first | (with_reducible exact HQ1.out _ _) | (with_reducible exact HQ2.out _ _)))
            refine wpQuiet_nil ?_
            intro _ hw'
            obtain ⟨⟨dq, osq⟩, hw''⟩ := hw'
            subst hw''
            have HN := Aside0.mk (Blks.call HM.out (below_regrown _ dq osq)); clear HM; have HM := HN; clear HN
            clear fk0 fk1 fk2 fk3 fk4 fk5 fk6 fk7 fk8 fj0 fj1 fj2
            generalize grow (redrawn _ dq) osq = wz at *
            have k0 := Blks.cell HM.out (b := b3) (o := 0) (by repeat (first | exact List.Mem.head _ | apply List.Mem.tail)) (by repeat (first | exact Rd.nil | apply Rd.here | apply Rd.skip)); have k1 := Blks.cell HM.out (b := b3) (o := 1) (by repeat (first | exact List.Mem.head _ | apply List.Mem.tail)) (by repeat (first | exact Rd.nil | apply Rd.here | apply Rd.skip)); have k2 := Blks.cell HM.out (b := b3) (o := 2) (by repeat (first | exact List.Mem.head _ | apply List.Mem.tail)) (by repeat (first | exact Rd.nil | apply Rd.here | apply Rd.skip)); have k3 := Blks.cell HM.out (b := b3) (o := 3) (by repeat (first | exact List.Mem.head _ | apply List.Mem.tail)) (by repeat (first | exact Rd.nil | apply Rd.here | apply Rd.skip)); have k4 := Blks.cell HM.out (b := b3) (o := 4) (by repeat (first | exact List.Mem.head _ | apply List.Mem.tail)) (by repeat (first | exact Rd.nil | apply Rd.here | apply Rd.skip)); have k5 := Blks.cell HM.out (b := b3) (o := 5) (by repeat (first | exact List.Mem.head _ | apply List.Mem.tail)) (by repeat (first | exact Rd.nil | apply Rd.here | apply Rd.skip)); have k6 := Blks.cell HM.out (b := b3) (o := 6) (by repeat (first | exact List.Mem.head _ | apply List.Mem.tail)) (by repeat (first | exact Rd.nil | apply Rd.here | apply Rd.skip)); have k7 := Blks.cell HM.out (b := b3) (o := 7) (by repeat (first | exact List.Mem.head _ | apply List.Mem.tail)) (by repeat (first | exact Rd.nil | apply Rd.here | apply Rd.skip)); have k8 := Blks.cell HM.out (b := b3) (o := 8) (by repeat (first | exact List.Mem.head _ | apply List.Mem.tail)) (by repeat (first | exact Rd.nil | apply Rd.here | apply Rd.skip)); have j0 := Blks.cell HM.out (b := ba) (o := 0) (by repeat (first | exact List.Mem.head _ | apply List.Mem.tail)) (by repeat (first | exact Rd.nil | apply Rd.here | apply Rd.skip)); have j1 := Blks.cell HM.out (b := ba) (o := 1) (by repeat (first | exact List.Mem.head _ | apply List.Mem.tail)) (by repeat (first | exact Rd.nil | apply Rd.here | apply Rd.skip)); have j2 := Blks.cell HM.out (b := ba) (o := 2) (by repeat (first | exact List.Mem.head _ | apply List.Mem.tail)) (by repeat (first | exact Rd.nil | apply Rd.here | apply Rd.skip))
            go_upto_region 17 with (fail)
            clear k0 k1 k2 k3 k4 k5 k6 k7 k8 j0 j1 j2
            go_wp2_with ((go_at_call 25; ((with_reducible refine (HA.out _ (Blks.bel (by repeat (first | exact HM.out | apply Blks.drewN | apply Blks.drew | apply Blks.other)))).mono ?_); rintro e w1 ⟨rfl, hb⟩; have HN := Aside0.mk (Blks.call (by repeat (first | exact HM.out | apply Blks.drewN | apply Blks.drew | apply Blks.other)) hb); clear HM hb; have HM := HN; clear HN; have k0 := Blks.cell HM.out (b := b3) (o := 0) (by repeat (first | exact List.Mem.head _ | apply List.Mem.tail)) (by repeat (first | exact Rd.nil | apply Rd.here | apply Rd.skip)); have k1 := Blks.cell HM.out (b := b3) (o := 1) (by repeat (first | exact List.Mem.head _ | apply List.Mem.tail)) (by repeat (first | exact Rd.nil | apply Rd.here | apply Rd.skip)); have k2 := Blks.cell HM.out (b := b3) (o := 2) (by repeat (first | exact List.Mem.head _ | apply List.Mem.tail)) (by repeat (first | exact Rd.nil | apply Rd.here | apply Rd.skip)); have k3 := Blks.cell HM.out (b := b3) (o := 3) (by repeat (first | exact List.Mem.head _ | apply List.Mem.tail)) (by repeat (first | exact Rd.nil | apply Rd.here | apply Rd.skip)); have k4 := Blks.cell HM.out (b := b3) (o := 4) (by repeat (first | exact List.Mem.head _ | apply List.Mem.tail)) (by repeat (first | exact Rd.nil | apply Rd.here | apply Rd.skip)); have k5 := Blks.cell HM.out (b := b3) (o := 5) (by repeat (first | exact List.Mem.head _ | apply List.Mem.tail)) (by repeat (first | exact Rd.nil | apply Rd.here | apply Rd.skip)); have k6 := Blks.cell HM.out (b := b3) (o := 6) (by repeat (first | exact List.Mem.head _ | apply List.Mem.tail)) (by repeat (first | exact Rd.nil | apply Rd.here | apply Rd.skip)); have k7 := Blks.cell HM.out (b := b3) (o := 7) (by repeat (first | exact List.Mem.head _ | apply List.Mem.tail)) (by repeat (first | exact Rd.nil | apply Rd.here | apply Rd.skip)); have k8 := Blks.cell HM.out (b := b3) (o := 8) (by repeat (first | exact List.Mem.head _ | apply List.Mem.tail)) (by repeat (first | exact Rd.nil | apply Rd.here | apply Rd.skip)); have j0 := Blks.cell HM.out (b := ba) (o := 0) (by repeat (first | exact List.Mem.head _ | apply List.Mem.tail)) (by repeat (first | exact Rd.nil | apply Rd.here | apply Rd.skip)); have j1 := Blks.cell HM.out (b := ba) (o := 1) (by repeat (first | exact List.Mem.head _ | apply List.Mem.tail)) (by repeat (first | exact Rd.nil | apply Rd.here | apply Rd.skip)); have j2 := Blks.cell HM.out (b := ba) (o := 2) (by repeat (first | exact List.Mem.head _ | apply List.Mem.tail)) (by repeat (first | exact Rd.nil | apply Rd.here | apply Rd.skip)))))
            go_ret
            exact ⟨rfl, HM.out.bel⟩
          | true =>
            have e1 : r.toList.isEmpty = false := by simpa using HPD.out
            have hup := HUP.out rfl
            subst hup
            have k0 := Blks.cell HM.out (b := b3) (o := 0) (by repeat (first | exact List.Mem.head _ | apply List.Mem.tail)) (by repeat (first | exact Rd.nil | apply Rd.here | apply Rd.skip)); have k1 := Blks.cell HM.out (b := b3) (o := 1) (by repeat (first | exact List.Mem.head _ | apply List.Mem.tail)) (by repeat (first | exact Rd.nil | apply Rd.here | apply Rd.skip)); have k2 := Blks.cell HM.out (b := b3) (o := 2) (by repeat (first | exact List.Mem.head _ | apply List.Mem.tail)) (by repeat (first | exact Rd.nil | apply Rd.here | apply Rd.skip)); have k3 := Blks.cell HM.out (b := b3) (o := 3) (by repeat (first | exact List.Mem.head _ | apply List.Mem.tail)) (by repeat (first | exact Rd.nil | apply Rd.here | apply Rd.skip)); have k4 := Blks.cell HM.out (b := b3) (o := 4) (by repeat (first | exact List.Mem.head _ | apply List.Mem.tail)) (by repeat (first | exact Rd.nil | apply Rd.here | apply Rd.skip)); have k5 := Blks.cell HM.out (b := b3) (o := 5) (by repeat (first | exact List.Mem.head _ | apply List.Mem.tail)) (by repeat (first | exact Rd.nil | apply Rd.here | apply Rd.skip)); have k6 := Blks.cell HM.out (b := b3) (o := 6) (by repeat (first | exact List.Mem.head _ | apply List.Mem.tail)) (by repeat (first | exact Rd.nil | apply Rd.here | apply Rd.skip)); have k7 := Blks.cell HM.out (b := b3) (o := 7) (by repeat (first | exact List.Mem.head _ | apply List.Mem.tail)) (by repeat (first | exact Rd.nil | apply Rd.here | apply Rd.skip)); have k8 := Blks.cell HM.out (b := b3) (o := 8) (by repeat (first | exact List.Mem.head _ | apply List.Mem.tail)) (by repeat (first | exact Rd.nil | apply Rd.here | apply Rd.skip)); have j0 := Blks.cell HM.out (b := ba) (o := 0) (by repeat (first | exact List.Mem.head _ | apply List.Mem.tail)) (by repeat (first | exact Rd.nil | apply Rd.here | apply Rd.skip)); have j1 := Blks.cell HM.out (b := ba) (o := 1) (by repeat (first | exact List.Mem.head _ | apply List.Mem.tail)) (by repeat (first | exact Rd.nil | apply Rd.here | apply Rd.skip)); have j2 := Blks.cell HM.out (b := ba) (o := 2) (by repeat (first | exact List.Mem.head _ | apply List.Mem.tail)) (by repeat (first | exact Rd.nil | apply Rd.here | apply Rd.skip))
            go_upto_region 13 with (fail)
            clear k0 k1 k2 k3 k4 k5 k6 k7 k8 j0 j1 j2
            have HQ1 := Lib.hid (fun d os => Calls.regrown_of (HO.out (grow (redrawn wx d) os)))
            have HQ2 := Lib.hid (fun d os => Calls.regrown_of (HCT.out (grow (redrawn wx d) os)))
            have fk0 := fun d os => cell_regrown (Blks.cell HM.out (b := b3) (o := 0) (by repeat (first | exact List.Mem.head _ | apply List.Mem.tail)) (by repeat (first | exact Rd.nil | apply Rd.here | apply Rd.skip))) d os
            have fk1 := fun d os => cell_regrown (Blks.cell HM.out (b := b3) (o := 1) (by repeat (first | exact List.Mem.head _ | apply List.Mem.tail)) (by repeat (first | exact Rd.nil | apply Rd.here | apply Rd.skip))) d os
            have fk2 := fun d os => cell_regrown (Blks.cell HM.out (b := b3) (o := 2) (by repeat (first | exact List.Mem.head _ | apply List.Mem.tail)) (by repeat (first | exact Rd.nil | apply Rd.here | apply Rd.skip))) d os
            have fk3 := fun d os => cell_regrown (Blks.cell HM.out (b := b3) (o := 3) (by repeat (first | exact List.Mem.head _ | apply List.Mem.tail)) (by repeat (first | exact Rd.nil | apply Rd.here | apply Rd.skip))) d os
            have fk4 := fun d os => cell_regrown (Blks.cell HM.out (b := b3) (o := 4) (by repeat (first | exact List.Mem.head _ | apply List.Mem.tail)) (by repeat (first | exact Rd.nil | apply Rd.here | apply Rd.skip))) d os
            have fk5 := fun d os => cell_regrown (Blks.cell HM.out (b := b3) (o := 5) (by repeat (first | exact List.Mem.head _ | apply List.Mem.tail)) (by repeat (first | exact Rd.nil | apply Rd.here | apply Rd.skip))) d os
            have fk6 := fun d os => cell_regrown (Blks.cell HM.out (b := b3) (o := 6) (by repeat (first | exact List.Mem.head _ | apply List.Mem.tail)) (by repeat (first | exact Rd.nil | apply Rd.here | apply Rd.skip))) d os
            have fk7 := fun d os => cell_regrown (Blks.cell HM.out (b := b3) (o := 7) (by repeat (first | exact List.Mem.head _ | apply List.Mem.tail)) (by repeat (first | exact Rd.nil | apply Rd.here | apply Rd.skip))) d os
            have fk8 := fun d os => cell_regrown (Blks.cell HM.out (b := b3) (o := 8) (by repeat (first | exact List.Mem.head _ | apply List.Mem.tail)) (by repeat (first | exact Rd.nil | apply Rd.here | apply Rd.skip))) d os
            have fj0 := fun d os => cell_regrown (Blks.cell HM.out (b := ba) (o := 0) (by repeat (first | exact List.Mem.head _ | apply List.Mem.tail)) (by repeat (first | exact Rd.nil | apply Rd.here | apply Rd.skip))) d os
            have fj1 := fun d os => cell_regrown (Blks.cell HM.out (b := ba) (o := 1) (by repeat (first | exact List.Mem.head _ | apply List.Mem.tail)) (by repeat (first | exact Rd.nil | apply Rd.here | apply Rd.skip))) d os
            have fj2 := fun d os => cell_regrown (Blks.cell HM.out (b := ba) (o := 2) (by repeat (first | exact List.Mem.head _ | apply List.Mem.tail)) (by repeat (first | exact Rd.nil | apply Rd.here | apply Rd.skip))) d os
            refine wp_region_quiet_below (by kernel_rfl) (by kernel_rfl) ?_
            repeat (go_big_quiet_step (first | (with_reducible exact HQ1.out _ _) | (with_reducible exact HQ2.out _ _)))
            refine wpQuiet_nil ?_
            intro _ hw'
            obtain ⟨⟨dq, osq⟩, hw''⟩ := hw'
            subst hw''
            have HN := Aside0.mk (Blks.call HM.out (below_regrown _ dq osq)); clear HM; have HM := HN; clear HN
            clear fk0 fk1 fk2 fk3 fk4 fk5 fk6 fk7 fk8 fj0 fj1 fj2
            generalize grow (redrawn _ dq) osq = wz at *
            have k0 := Blks.cell HM.out (b := b3) (o := 0) (by repeat (first | exact List.Mem.head _ | apply List.Mem.tail)) (by repeat (first | exact Rd.nil | apply Rd.here | apply Rd.skip)); have k1 := Blks.cell HM.out (b := b3) (o := 1) (by repeat (first | exact List.Mem.head _ | apply List.Mem.tail)) (by repeat (first | exact Rd.nil | apply Rd.here | apply Rd.skip)); have k2 := Blks.cell HM.out (b := b3) (o := 2) (by repeat (first | exact List.Mem.head _ | apply List.Mem.tail)) (by repeat (first | exact Rd.nil | apply Rd.here | apply Rd.skip)); have k3 := Blks.cell HM.out (b := b3) (o := 3) (by repeat (first | exact List.Mem.head _ | apply List.Mem.tail)) (by repeat (first | exact Rd.nil | apply Rd.here | apply Rd.skip)); have k4 := Blks.cell HM.out (b := b3) (o := 4) (by repeat (first | exact List.Mem.head _ | apply List.Mem.tail)) (by repeat (first | exact Rd.nil | apply Rd.here | apply Rd.skip)); have k5 := Blks.cell HM.out (b := b3) (o := 5) (by repeat (first | exact List.Mem.head _ | apply List.Mem.tail)) (by repeat (first | exact Rd.nil | apply Rd.here | apply Rd.skip)); have k6 := Blks.cell HM.out (b := b3) (o := 6) (by repeat (first | exact List.Mem.head _ | apply List.Mem.tail)) (by repeat (first | exact Rd.nil | apply Rd.here | apply Rd.skip)); have k7 := Blks.cell HM.out (b := b3) (o := 7) (by repeat (first | exact List.Mem.head _ | apply List.Mem.tail)) (by repeat (first | exact Rd.nil | apply Rd.here | apply Rd.skip)); have k8 := Blks.cell HM.out (b := b3) (o := 8) (by repeat (first | exact List.Mem.head _ | apply List.Mem.tail)) (by repeat (first | exact Rd.nil | apply Rd.here | apply Rd.skip)); have j0 := Blks.cell HM.out (b := ba) (o := 0) (by repeat (first | exact List.Mem.head _ | apply List.Mem.tail)) (by repeat (first | exact Rd.nil | apply Rd.here | apply Rd.skip)); have j1 := Blks.cell HM.out (b := ba) (o := 1) (by repeat (first | exact List.Mem.head _ | apply List.Mem.tail)) (by repeat (first | exact Rd.nil | apply Rd.here | apply Rd.skip)); have j2 := Blks.cell HM.out (b := ba) (o := 2) (by repeat (first | exact List.Mem.head _ | apply List.Mem.tail)) (by repeat (first | exact Rd.nil | apply Rd.here | apply Rd.skip))
            go_upto_region 17 with (fail)
            clear k0 k1 k2 k3 k4 k5 k6 k7 k8 j0 j1 j2
            go_wp2_with ((go_at_call 25; ((with_reducible refine (HA.out _ (Blks.bel (by repeat (first | exact HM.out | apply Blks.drewN | apply Blks.drew | apply Blks.other)))).mono ?_); rintro e w1 ⟨rfl, hb⟩; have HN := Aside0.mk (Blks.call (by repeat (first | exact HM.out | apply Blks.drewN | apply Blks.drew | apply Blks.other)) hb); clear HM hb; have HM := HN; clear HN; have k0 := Blks.cell HM.out (b := b3) (o := 0) (by repeat (first | exact List.Mem.head _ | apply List.Mem.tail)) (by repeat (first | exact Rd.nil | apply Rd.here | apply Rd.skip)); have k1 := Blks.cell HM.out (b := b3) (o := 1) (by repeat (first | exact List.Mem.head _ | apply List.Mem.tail)) (by repeat (first | exact Rd.nil | apply Rd.here | apply Rd.skip)); have k2 := Blks.cell HM.out (b := b3) (o := 2) (by repeat (first | exact List.Mem.head _ | apply List.Mem.tail)) (by repeat (first | exact Rd.nil | apply Rd.here | apply Rd.skip)); have k3 := Blks.cell HM.out (b := b3) (o := 3) (by repeat (first | exact List.Mem.head _ | apply List.Mem.tail)) (by repeat (first | exact Rd.nil | apply Rd.here | apply Rd.skip)); have k4 := Blks.cell HM.out (b := b3) (o := 4) (by repeat (first | exact List.Mem.head _ | apply List.Mem.tail)) (by repeat (first | exact Rd.nil | apply Rd.here | apply Rd.skip)); have k5 := Blks.cell HM.out (b := b3) (o := 5) (by repeat (first | exact List.Mem.head _ | apply List.Mem.tail)) (by repeat (first | exact Rd.nil | apply Rd.here | apply Rd.skip)); have k6 := Blks.cell HM.out (b := b3) (o := 6) (by repeat (first | exact List.Mem.head _ | apply List.Mem.tail)) (by repeat (first | exact Rd.nil | apply Rd.here | apply Rd.skip)); have k7 := Blks.cell HM.out (b := b3) (o := 7) (by repeat (first | exact List.Mem.head _ | apply List.Mem.tail)) (by repeat (first | exact Rd.nil | apply Rd.here | apply Rd.skip)); have k8 := Blks.cell HM.out (b := b3) (o := 8) (by repeat (first | exact List.Mem.head _ | apply List.Mem.tail)) (by repeat (first | exact Rd.nil | apply Rd.here | apply Rd.skip)); have j0 := Blks.cell HM.out (b := ba) (o := 0) (by repeat (first | exact List.Mem.head _ | apply List.Mem.tail)) (by repeat (first | exact Rd.nil | apply Rd.here | apply Rd.skip)); have j1 := Blks.cell HM.out (b := ba) (o := 1) (by repeat (first | exact List.Mem.head _ | apply List.Mem.tail)) (by repeat (first | exact Rd.nil | apply Rd.here | apply Rd.skip)); have j2 := Blks.cell HM.out (b := ba) (o := 2) (by repeat (first | exact List.Mem.head _ | apply List.Mem.tail)) (by repeat (first | exact Rd.nil | apply Rd.here | apply Rd.skip)))))
            go_ret
            exact ⟨rfl, HM.out.bel⟩
        · skip
          have hun' := hun.symm
          subst hun'
          clear hun
          have hbr' := hbr.symm
          subst hbr'
          clear hbr
          have hvs' := hvs.symm
          subst hvs'
          clear hvs
          have q0 : (ty == 0) = false := beq_eq_false_iff_ne.2 (by omega)
          have q3 : (ty == 3) = false := beq_eq_false_iff_ne.2 (by omega)
          clear hty
          cases pd with
          | false =>
            have e1 : r.toList.isEmpty = true := by simpa using HPD.out
            have k0 := Blks.cell HM.out (b := b3) (o := 0) (by repeat (first | exact List.Mem.head _ | apply List.Mem.tail)) (by repeat (first | exact Rd.nil | apply Rd.here | apply Rd.skip)); have k1 := Blks.cell HM.out (b := b3) (o := 1) (by repeat (first | exact List.Mem.head _ | apply List.Mem.tail)) (by repeat (first | exact Rd.nil | apply Rd.here | apply Rd.skip)); have k2 := Blks.cell HM.out (b := b3) (o := 2) (by repeat (first | exact List.Mem.head _ | apply List.Mem.tail)) (by repeat (first | exact Rd.nil | apply Rd.here | apply Rd.skip)); have k3 := Blks.cell HM.out (b := b3) (o := 3) (by repeat (first | exact List.Mem.head _ | apply List.Mem.tail)) (by repeat (first | exact Rd.nil | apply Rd.here | apply Rd.skip)); have k4 := Blks.cell HM.out (b := b3) (o := 4) (by repeat (first | exact List.Mem.head _ | apply List.Mem.tail)) (by repeat (first | exact Rd.nil | apply Rd.here | apply Rd.skip)); have k5 := Blks.cell HM.out (b := b3) (o := 5) (by repeat (first | exact List.Mem.head _ | apply List.Mem.tail)) (by repeat (first | exact Rd.nil | apply Rd.here | apply Rd.skip)); have k6 := Blks.cell HM.out (b := b3) (o := 6) (by repeat (first | exact List.Mem.head _ | apply List.Mem.tail)) (by repeat (first | exact Rd.nil | apply Rd.here | apply Rd.skip)); have k7 := Blks.cell HM.out (b := b3) (o := 7) (by repeat (first | exact List.Mem.head _ | apply List.Mem.tail)) (by repeat (first | exact Rd.nil | apply Rd.here | apply Rd.skip)); have k8 := Blks.cell HM.out (b := b3) (o := 8) (by repeat (first | exact List.Mem.head _ | apply List.Mem.tail)) (by repeat (first | exact Rd.nil | apply Rd.here | apply Rd.skip)); have j0 := Blks.cell HM.out (b := ba) (o := 0) (by repeat (first | exact List.Mem.head _ | apply List.Mem.tail)) (by repeat (first | exact Rd.nil | apply Rd.here | apply Rd.skip)); have j1 := Blks.cell HM.out (b := ba) (o := 1) (by repeat (first | exact List.Mem.head _ | apply List.Mem.tail)) (by repeat (first | exact Rd.nil | apply Rd.here | apply Rd.skip)); have j2 := Blks.cell HM.out (b := ba) (o := 2) (by repeat (first | exact List.Mem.head _ | apply List.Mem.tail)) (by repeat (first | exact Rd.nil | apply Rd.here | apply Rd.skip))
            go_upto_region 13 with (fail)
            clear k0 k1 k2 k3 k4 k5 k6 k7 k8 j0 j1 j2
            have HQ1 := Lib.hid (fun d os => Calls.regrown_of (HO.out (grow (redrawn wx d) os)))
            have HQ2 := Lib.hid (fun d os => Calls.regrown_of (HCT.out (grow (redrawn wx d) os)))
            have fk0 := fun d os => cell_regrown (Blks.cell HM.out (b := b3) (o := 0) (by repeat (first | exact List.Mem.head _ | apply List.Mem.tail)) (by repeat (first | exact Rd.nil | apply Rd.here | apply Rd.skip))) d os
            have fk1 := fun d os => cell_regrown (Blks.cell HM.out (b := b3) (o := 1) (by repeat (first | exact List.Mem.head _ | apply List.Mem.tail)) (by repeat (first | exact Rd.nil | apply Rd.here | apply Rd.skip))) d os
            have fk2 := fun d os => cell_regrown (Blks.cell HM.out (b := b3) (o := 2) (by repeat (first | exact List.Mem.head _ | apply List.Mem.tail)) (by repeat (first | exact Rd.nil | apply Rd.here | apply Rd.skip))) d os
            have fk3 := fun d os => cell_regrown (Blks.cell HM.out (b := b3) (o := 3) (by repeat (first | exact List.Mem.head _ | apply List.Mem.tail)) (by repeat (first | exact Rd.nil | apply Rd.here | apply Rd.skip))) d os
            have fk4 := fun d os => cell_regrown (Blks.cell HM.out (b := b3) (o := 4) (by repeat (first | exact List.Mem.head _ | apply List.Mem.tail)) (by repeat (first | exact Rd.nil | apply Rd.here | apply Rd.skip))) d os
            have fk5 := fun d os => cell_regrown (Blks.cell HM.out (b := b3) (o := 5) (by repeat (first | exact List.Mem.head _ | apply List.Mem.tail)) (by repeat (first | exact Rd.nil | apply Rd.here | apply Rd.skip))) d os
            have fk6 := fun d os => cell_regrown (Blks.cell HM.out (b := b3) (o := 6) (by repeat (first | exact List.Mem.head _ | apply List.Mem.tail)) (by repeat (first | exact Rd.nil | apply Rd.here | apply Rd.skip))) d os
            have fk7 := fun d os => cell_regrown (Blks.cell HM.out (b := b3) (o := 7) (by repeat (first | exact List.Mem.head _ | apply List.Mem.tail)) (by repeat (first | exact Rd.nil | apply Rd.here | apply Rd.skip))) d os
            have fk8 := fun d os => cell_regrown (Blks.cell HM.out (b := b3) (o := 8) (by repeat (first | exact List.Mem.head _ | apply List.Mem.tail)) (by repeat (first | exact Rd.nil | apply Rd.here | apply Rd.skip))) d os
            have fj0 := fun d os => cell_regrown (Blks.cell HM.out (b := ba) (o := 0) (by repeat (first | exact List.Mem.head _ | apply List.Mem.tail)) (by repeat (first | exact Rd.nil | apply Rd.here | apply Rd.skip))) d os
            have fj1 := fun d os => cell_regrown (Blks.cell HM.out (b := ba) (o := 1) (by repeat (first | exact List.Mem.head _ | apply List.Mem.tail)) (by repeat (first | exact Rd.nil | apply Rd.here | apply Rd.skip))) d os
            have fj2 := fun d os => cell_regrown (Blks.cell HM.out (b := ba) (o := 2) (by repeat (first | exact List.Mem.head _ | apply List.Mem.tail)) (by repeat (first | exact Rd.nil | apply Rd.here | apply Rd.skip))) d os
            refine wp_region_quiet_below (by kernel_rfl) (by kernel_rfl) ?_
            repeat (go_big_quiet_step (first | (with_reducible exact HQ1.out _ _) | (with_reducible exact HQ2.out _ _)))
            refine wpQuiet_nil ?_
            intro _ hw'
            obtain ⟨⟨dq, osq⟩, hw''⟩ := hw'
            subst hw''
            have HN := Aside0.mk (Blks.call HM.out (below_regrown _ dq osq)); clear HM; have HM := HN; clear HN
            clear fk0 fk1 fk2 fk3 fk4 fk5 fk6 fk7 fk8 fj0 fj1 fj2
            generalize grow (redrawn _ dq) osq = wz at *
            have k0 := Blks.cell HM.out (b := b3) (o := 0) (by repeat (first | exact List.Mem.head _ | apply List.Mem.tail)) (by repeat (first | exact Rd.nil | apply Rd.here | apply Rd.skip)); have k1 := Blks.cell HM.out (b := b3) (o := 1) (by repeat (first | exact List.Mem.head _ | apply List.Mem.tail)) (by repeat (first | exact Rd.nil | apply Rd.here | apply Rd.skip)); have k2 := Blks.cell HM.out (b := b3) (o := 2) (by repeat (first | exact List.Mem.head _ | apply List.Mem.tail)) (by repeat (first | exact Rd.nil | apply Rd.here | apply Rd.skip)); have k3 := Blks.cell HM.out (b := b3) (o := 3) (by repeat (first | exact List.Mem.head _ | apply List.Mem.tail)) (by repeat (first | exact Rd.nil | apply Rd.here | apply Rd.skip)); have k4 := Blks.cell HM.out (b := b3) (o := 4) (by repeat (first | exact List.Mem.head _ | apply List.Mem.tail)) (by repeat (first | exact Rd.nil | apply Rd.here | apply Rd.skip)); have k5 := Blks.cell HM.out (b := b3) (o := 5) (by repeat (first | exact List.Mem.head _ | apply List.Mem.tail)) (by repeat (first | exact Rd.nil | apply Rd.here | apply Rd.skip)); have k6 := Blks.cell HM.out (b := b3) (o := 6) (by repeat (first | exact List.Mem.head _ | apply List.Mem.tail)) (by repeat (first | exact Rd.nil | apply Rd.here | apply Rd.skip)); have k7 := Blks.cell HM.out (b := b3) (o := 7) (by repeat (first | exact List.Mem.head _ | apply List.Mem.tail)) (by repeat (first | exact Rd.nil | apply Rd.here | apply Rd.skip)); have k8 := Blks.cell HM.out (b := b3) (o := 8) (by repeat (first | exact List.Mem.head _ | apply List.Mem.tail)) (by repeat (first | exact Rd.nil | apply Rd.here | apply Rd.skip)); have j0 := Blks.cell HM.out (b := ba) (o := 0) (by repeat (first | exact List.Mem.head _ | apply List.Mem.tail)) (by repeat (first | exact Rd.nil | apply Rd.here | apply Rd.skip)); have j1 := Blks.cell HM.out (b := ba) (o := 1) (by repeat (first | exact List.Mem.head _ | apply List.Mem.tail)) (by repeat (first | exact Rd.nil | apply Rd.here | apply Rd.skip)); have j2 := Blks.cell HM.out (b := ba) (o := 2) (by repeat (first | exact List.Mem.head _ | apply List.Mem.tail)) (by repeat (first | exact Rd.nil | apply Rd.here | apply Rd.skip))
            go_upto_region 17 with (fail)
            clear k0 k1 k2 k3 k4 k5 k6 k7 k8 j0 j1 j2
            go_wp2_with ((go_at_call 25; ((with_reducible refine (HA.out _ (Blks.bel (by repeat (first | exact HM.out | apply Blks.drewN | apply Blks.drew | apply Blks.other)))).mono ?_); rintro e w1 ⟨rfl, hb⟩; have HN := Aside0.mk (Blks.call (by repeat (first | exact HM.out | apply Blks.drewN | apply Blks.drew | apply Blks.other)) hb); clear HM hb; have HM := HN; clear HN; have k0 := Blks.cell HM.out (b := b3) (o := 0) (by repeat (first | exact List.Mem.head _ | apply List.Mem.tail)) (by repeat (first | exact Rd.nil | apply Rd.here | apply Rd.skip)); have k1 := Blks.cell HM.out (b := b3) (o := 1) (by repeat (first | exact List.Mem.head _ | apply List.Mem.tail)) (by repeat (first | exact Rd.nil | apply Rd.here | apply Rd.skip)); have k2 := Blks.cell HM.out (b := b3) (o := 2) (by repeat (first | exact List.Mem.head _ | apply List.Mem.tail)) (by repeat (first | exact Rd.nil | apply Rd.here | apply Rd.skip)); have k3 := Blks.cell HM.out (b := b3) (o := 3) (by repeat (first | exact List.Mem.head _ | apply List.Mem.tail)) (by repeat (first | exact Rd.nil | apply Rd.here | apply Rd.skip)); have k4 := Blks.cell HM.out (b := b3) (o := 4) (by repeat (first | exact List.Mem.head _ | apply List.Mem.tail)) (by repeat (first | exact Rd.nil | apply Rd.here | apply Rd.skip)); have k5 := Blks.cell HM.out (b := b3) (o := 5) (by repeat (first | exact List.Mem.head _ | apply List.Mem.tail)) (by repeat (first | exact Rd.nil | apply Rd.here | apply Rd.skip)); have k6 := Blks.cell HM.out (b := b3) (o := 6) (by repeat (first | exact List.Mem.head _ | apply List.Mem.tail)) (by repeat (first | exact Rd.nil | apply Rd.here | apply Rd.skip)); have k7 := Blks.cell HM.out (b := b3) (o := 7) (by repeat (first | exact List.Mem.head _ | apply List.Mem.tail)) (by repeat (first | exact Rd.nil | apply Rd.here | apply Rd.skip)); have k8 := Blks.cell HM.out (b := b3) (o := 8) (by repeat (first | exact List.Mem.head _ | apply List.Mem.tail)) (by repeat (first | exact Rd.nil | apply Rd.here | apply Rd.skip)); have j0 := Blks.cell HM.out (b := ba) (o := 0) (by repeat (first | exact List.Mem.head _ | apply List.Mem.tail)) (by repeat (first | exact Rd.nil | apply Rd.here | apply Rd.skip)); have j1 := Blks.cell HM.out (b := ba) (o := 1) (by repeat (first | exact List.Mem.head _ | apply List.Mem.tail)) (by repeat (first | exact Rd.nil | apply Rd.here | apply Rd.skip)); have j2 := Blks.cell HM.out (b := ba) (o := 2) (by repeat (first | exact List.Mem.head _ | apply List.Mem.tail)) (by repeat (first | exact Rd.nil | apply Rd.here | apply Rd.skip)))))
            go_ret
            exact ⟨rfl, HM.out.bel⟩
          | true =>
            have e1 : r.toList.isEmpty = false := by simpa using HPD.out
            have hup := HUP.out rfl
            subst hup
            have k0 := Blks.cell HM.out (b := b3) (o := 0) (by repeat (first | exact List.Mem.head _ | apply List.Mem.tail)) (by repeat (first | exact Rd.nil | apply Rd.here | apply Rd.skip)); have k1 := Blks.cell HM.out (b := b3) (o := 1) (by repeat (first | exact List.Mem.head _ | apply List.Mem.tail)) (by repeat (first | exact Rd.nil | apply Rd.here | apply Rd.skip)); have k2 := Blks.cell HM.out (b := b3) (o := 2) (by repeat (first | exact List.Mem.head _ | apply List.Mem.tail)) (by repeat (first | exact Rd.nil | apply Rd.here | apply Rd.skip)); have k3 := Blks.cell HM.out (b := b3) (o := 3) (by repeat (first | exact List.Mem.head _ | apply List.Mem.tail)) (by repeat (first | exact Rd.nil | apply Rd.here | apply Rd.skip)); have k4 := Blks.cell HM.out (b := b3) (o := 4) (by repeat (first | exact List.Mem.head _ | apply List.Mem.tail)) (by repeat (first | exact Rd.nil | apply Rd.here | apply Rd.skip)); have k5 := Blks.cell HM.out (b := b3) (o := 5) (by repeat (first | exact List.Mem.head _ | apply List.Mem.tail)) (by repeat (first | exact Rd.nil | apply Rd.here | apply Rd.skip)); have k6 := Blks.cell HM.out (b := b3) (o := 6) (by repeat (first | exact List.Mem.head _ | apply List.Mem.tail)) (by repeat (first | exact Rd.nil | apply Rd.here | apply Rd.skip)); have k7 := Blks.cell HM.out (b := b3) (o := 7) (by repeat (first | exact List.Mem.head _ | apply List.Mem.tail)) (by repeat (first | exact Rd.nil | apply Rd.here | apply Rd.skip)); have k8 := Blks.cell HM.out (b := b3) (o := 8) (by repeat (first | exact List.Mem.head _ | apply List.Mem.tail)) (by repeat (first | exact Rd.nil | apply Rd.here | apply Rd.skip)); have j0 := Blks.cell HM.out (b := ba) (o := 0) (by repeat (first | exact List.Mem.head _ | apply List.Mem.tail)) (by repeat (first | exact Rd.nil | apply Rd.here | apply Rd.skip)); have j1 := Blks.cell HM.out (b := ba) (o := 1) (by repeat (first | exact List.Mem.head _ | apply List.Mem.tail)) (by repeat (first | exact Rd.nil | apply Rd.here | apply Rd.skip)); have j2 := Blks.cell HM.out (b := ba) (o := 2) (by repeat (first | exact List.Mem.head _ | apply List.Mem.tail)) (by repeat (first | exact Rd.nil | apply Rd.here | apply Rd.skip))
            go_upto_region 13 with (fail)
            clear k0 k1 k2 k3 k4 k5 k6 k7 k8 j0 j1 j2
            have HQ1 := Lib.hid (fun d os => Calls.regrown_of (HO.out (grow (redrawn wx d) os)))
            have HQ2 := Lib.hid (fun d os => Calls.regrown_of (HCT.out (grow (redrawn wx d) os)))
            have fk0 := fun d os => cell_regrown (Blks.cell HM.out (b := b3) (o := 0) (by repeat (first | exact List.Mem.head _ | apply List.Mem.tail)) (by repeat (first | exact Rd.nil | apply Rd.here | apply Rd.skip))) d os
            have fk1 := fun d os => cell_regrown (Blks.cell HM.out (b := b3) (o := 1) (by repeat (first | exact List.Mem.head _ | apply List.Mem.tail)) (by repeat (first | exact Rd.nil | apply Rd.here | apply Rd.skip))) d os
            have fk2 := fun d os => cell_regrown (Blks.cell HM.out (b := b3) (o := 2) (by repeat (first | exact List.Mem.head _ | apply List.Mem.tail)) (by repeat (first | exact Rd.nil | apply Rd.here | apply Rd.skip))) d os
            have fk3 := fun d os => cell_regrown (Blks.cell HM.out (b := b3) (o := 3) (by repeat (first | exact List.Mem.head _ | apply List.Mem.tail)) (by repeat (first | exact Rd.nil | apply Rd.here | apply Rd.skip))) d os
            have fk4 := fun d os => cell_regrown (Blks.cell HM.out (b := b3) (o := 4) (by repeat (first | exact List.Mem.head _ | apply List.Mem.tail)) (by repeat (first | exact Rd.nil | apply Rd.here | apply Rd.skip))) d os
            have fk5 := fun d os => cell_regrown (Blks.cell HM.out (b := b3) (o := 5) (by repeat (first | exact List.Mem.head _ | apply List.Mem.tail)) (by repeat (first | exact Rd.nil | apply Rd.here | apply Rd.skip))) d os
            have fk6 := fun d os => cell_regrown (Blks.cell HM.out (b := b3) (o := 6) (by repeat (first | exact List.Mem.head _ | apply List.Mem.tail)) (by repeat (first | exact Rd.nil | apply Rd.here | apply Rd.skip))) d os
            have fk7 := fun d os => cell_regrown (Blks.cell HM.out (b := b3) (o := 7) (by repeat (first | exact List.Mem.head _ | apply List.Mem.tail)) (by repeat (first | exact Rd.nil | apply Rd.here | apply Rd.skip))) d os
            have fk8 := fun d os => cell_regrown (Blks.cell HM.out (b := b3) (o := 8) (by repeat (first | exact List.Mem.head _ | apply List.Mem.tail)) (by repeat (first | exact Rd.nil | apply Rd.here | apply Rd.skip))) d os
            have fj0 := fun d os => cell_regrown (Blks.cell HM.out (b := ba) (o := 0) (by repeat (first | exact List.Mem.head _ | apply List.Mem.tail)) (by repeat (first | exact Rd.nil | apply Rd.here | apply Rd.skip))) d os
            have fj1 := fun d os => cell_regrown (Blks.cell HM.out (b := ba) (o := 1) (by repeat (first | exact List.Mem.head _ | apply List.Mem.tail)) (by repeat (first | exact Rd.nil | apply Rd.here | apply Rd.skip))) d os
            have fj2 := fun d os => cell_regrown (Blks.cell HM.out (b := ba) (o := 2) (by repeat (first | exact List.Mem.head _ | apply List.Mem.tail)) (by repeat (first | exact Rd.nil | apply Rd.here | apply Rd.skip))) d os
            refine wp_region_quiet_below (by kernel_rfl) (by kernel_rfl) ?_
            repeat (go_big_quiet_step (first | (with_reducible exact HQ1.out _ _) | (with_reducible exact HQ2.out _ _)))
            refine wpQuiet_nil ?_
            intro _ hw'
            obtain ⟨⟨dq, osq⟩, hw''⟩ := hw'
            subst hw''
            have HN := Aside0.mk (Blks.call HM.out (below_regrown _ dq osq)); clear HM; have HM := HN; clear HN
            clear fk0 fk1 fk2 fk3 fk4 fk5 fk6 fk7 fk8 fj0 fj1 fj2
            generalize grow (redrawn _ dq) osq = wz at *
            have k0 := Blks.cell HM.out (b := b3) (o := 0) (by repeat (first | exact List.Mem.head _ | apply List.Mem.tail)) (by repeat (first | exact Rd.nil | apply Rd.here | apply Rd.skip)); have k1 := Blks.cell HM.out (b := b3) (o := 1) (by repeat (first | exact List.Mem.head _ | apply List.Mem.tail)) (by repeat (first | exact Rd.nil | apply Rd.here | apply Rd.skip)); have k2 := Blks.cell HM.out (b := b3) (o := 2) (by repeat (first | exact List.Mem.head _ | apply List.Mem.tail)) (by repeat (first | exact Rd.nil | apply Rd.here | apply Rd.skip)); have k3 := Blks.cell HM.out (b := b3) (o := 3) (by repeat (first | exact List.Mem.head _ | apply List.Mem.tail)) (by repeat (first | exact Rd.nil | apply Rd.here | apply Rd.skip)); have k4 := Blks.cell HM.out (b := b3) (o := 4) (by repeat (first | exact List.Mem.head _ | apply List.Mem.tail)) (by repeat (first | exact Rd.nil | apply Rd.here | apply Rd.skip)); have k5 := Blks.cell HM.out (b := b3) (o := 5) (by repeat (first | exact List.Mem.head _ | apply List.Mem.tail)) (by repeat (first | exact Rd.nil | apply Rd.here | apply Rd.skip)); have k6 := Blks.cell HM.out (b := b3) (o := 6) (by repeat (first | exact List.Mem.head _ | apply List.Mem.tail)) (by repeat (first | exact Rd.nil | apply Rd.here | apply Rd.skip)); have k7 := Blks.cell HM.out (b := b3) (o := 7) (by repeat (first | exact List.Mem.head _ | apply List.Mem.tail)) (by repeat (first | exact Rd.nil | apply Rd.here | apply Rd.skip)); have k8 := Blks.cell HM.out (b := b3) (o := 8) (by repeat (first | exact List.Mem.head _ | apply List.Mem.tail)) (by repeat (first | exact Rd.nil | apply Rd.here | apply Rd.skip)); have j0 := Blks.cell HM.out (b := ba) (o := 0) (by repeat (first | exact List.Mem.head _ | apply List.Mem.tail)) (by repeat (first | exact Rd.nil | apply Rd.here | apply Rd.skip)); have j1 := Blks.cell HM.out (b := ba) (o := 1) (by repeat (first | exact List.Mem.head _ | apply List.Mem.tail)) (by repeat (first | exact Rd.nil | apply Rd.here | apply Rd.skip)); have j2 := Blks.cell HM.out (b := ba) (o := 2) (by repeat (first | exact List.Mem.head _ | apply List.Mem.tail)) (by repeat (first | exact Rd.nil | apply Rd.here | apply Rd.skip))
            go_upto_region 17 with (fail)
            clear k0 k1 k2 k3 k4 k5 k6 k7 k8 j0 j1 j2
            go_wp2_with ((go_at_call 25; ((with_reducible refine (HA.out _ (Blks.bel (by repeat (first | exact HM.out | apply Blks.drewN | apply Blks.drew | apply Blks.other)))).mono ?_); rintro e w1 ⟨rfl, hb⟩; have HN := Aside0.mk (Blks.call (by repeat (first | exact HM.out | apply Blks.drewN | apply Blks.drew | apply Blks.other)) hb); clear HM hb; have HM := HN; clear HN; have k0 := Blks.cell HM.out (b := b3) (o := 0) (by repeat (first | exact List.Mem.head _ | apply List.Mem.tail)) (by repeat (first | exact Rd.nil | apply Rd.here | apply Rd.skip)); have k1 := Blks.cell HM.out (b := b3) (o := 1) (by repeat (first | exact List.Mem.head _ | apply List.Mem.tail)) (by repeat (first | exact Rd.nil | apply Rd.here | apply Rd.skip)); have k2 := Blks.cell HM.out (b := b3) (o := 2) (by repeat (first | exact List.Mem.head _ | apply List.Mem.tail)) (by repeat (first | exact Rd.nil | apply Rd.here | apply Rd.skip)); have k3 := Blks.cell HM.out (b := b3) (o := 3) (by repeat (first | exact List.Mem.head _ | apply List.Mem.tail)) (by repeat (first | exact Rd.nil | apply Rd.here | apply Rd.skip)); have k4 := Blks.cell HM.out (b := b3) (o := 4) (by repeat (first | exact List.Mem.head _ | apply List.Mem.tail)) (by repeat (first | exact Rd.nil | apply Rd.here | apply Rd.skip)); have k5 := Blks.cell HM.out (b := b3) (o := 5) (by repeat (first | exact List.Mem.head _ | apply List.Mem.tail)) (by repeat (first | exact Rd.nil | apply Rd.here | apply Rd.skip)); have k6 := Blks.cell HM.out (b := b3) (o := 6) (by repeat (first | exact List.Mem.head _ | apply List.Mem.tail)) (by repeat (first | exact Rd.nil | apply Rd.here | apply Rd.skip)); have k7 := Blks.cell HM.out (b := b3) (o := 7) (by repeat (first | exact List.Mem.head _ | apply List.Mem.tail)) (by repeat (first | exact Rd.nil | apply Rd.here | apply Rd.skip)); have k8 := Blks.cell HM.out (b := b3) (o := 8) (by repeat (first | exact List.Mem.head _ | apply List.Mem.tail)) (by repeat (first | exact Rd.nil | apply Rd.here | apply Rd.skip)); have j0 := Blks.cell HM.out (b := ba) (o := 0) (by repeat (first | exact List.Mem.head _ | apply List.Mem.tail)) (by repeat (first | exact Rd.nil | apply Rd.here | apply Rd.skip)); have j1 := Blks.cell HM.out (b := ba) (o := 1) (by repeat (first | exact List.Mem.head _ | apply List.Mem.tail)) (by repeat (first | exact Rd.nil | apply Rd.here | apply Rd.skip)); have j2 := Blks.cell HM.out (b := ba) (o := 2) (by repeat (first | exact List.Mem.head _ | apply List.Mem.tail)) (by repeat (first | exact Rd.nil | apply Rd.here | apply Rd.skip)))))
            go_ret
            exact ⟨rfl, HM.out.bel⟩
end Go.Proofs.YtgoeiflddikihaaGreatDoor.Ver
end
