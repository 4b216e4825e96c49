/- Merged by program out of: SgnW. -/
import Derived.Test.YtgoeiflddikihaaGreatDoorCsgM3
import Derived.Test.YtgoeiflddikihaaGreatDoorCsgM49
section
namespace Go.Proofs.YtgoeiflddikihaaGreatDoor.Ins
end Go.Proofs.YtgoeiflddikihaaGreatDoor.Ins
namespace Go.Proofs.YtgoeiflddikihaaGreatDoor.Ver
set_option linter.unusedSimpArgs false
set_option linter.unusedVariables false
open Go.Sort (grow)
open Go.RowKit Go.Proofs.YtgoeiflddikihaaGreatDoor.Dig Go.Proofs.YtgoeiflddikihaaGreatDoor.PFnVersion Go.Proofs.YtgoeiflddikihaaGreatDoorW.PrintWords Go.Proofs.YtgoeiflddikihaaGreatDoor.Mem Go.Proofs.YtgoeiflddikihaaGreatDoor.Ord Go.Proofs.YtgoeiflddikihaaGreatDoor.Ins
instance sgI1 : OneC Tryz.prog 60 := ⟨⟨_, Tryz.underlying60, rfl⟩, by kernel_rfl⟩
instance sgI2 : RowC Tryz.prog 61 3 := ⟨⟨_, Tryz.underlying61, rfl⟩, by kernel_rfl⟩
set_option maxHeartbeats 2000000 in
theorem large_any (n0 n1 n2 : Int) : ∃ m : Bool, ∀ w, Calls Tryz.prog 39 #[.agg #[.int .u32 n0, .int .u32 n1, .int .u32 n2]] w fun e w' => e = .returned (.bool m) ∧ Below w.heap.size w w' := by
  cases h0 : decide (1000000 ≤ n0) with
  | true =>
    refine ⟨true, fun w => ?_⟩
    have HM := Aside0.mk (Blks.start w)
    go_enter Tryz.func39, Tryz.ntmps39
    go_upto_region 1 with ((with_reducible refine id_box ?_); (refine n_bx (x := .tmp 0) ?_; clear HM; intro b1 wq HM))
    have k0 := n_cell (b := b1) (o := 0); have k1 := n_cell (b := b1) (o := 1); have k2 := n_cell (b := b1) (o := 2)
    go_wp2_with fail
    go_ret
    exact ⟨rfl, HM.out.bel⟩
  | false =>
    cases h1 : decide (1000000 ≤ n1) with
    | true =>
      refine ⟨true, fun w => ?_⟩
      have HM := Aside0.mk (Blks.start w)
      go_enter Tryz.func39, Tryz.ntmps39
      go_upto_region 1 with ((with_reducible refine id_box ?_); (refine n_bx (x := .tmp 0) ?_; clear HM; intro b1 wq HM))
      have k0 := n_cell (b := b1) (o := 0); have k1 := n_cell (b := b1) (o := 1); have k2 := n_cell (b := b1) (o := 2)
      go_wp2_with fail
      go_ret
      exact ⟨rfl, HM.out.bel⟩
    | false =>
      cases h2 : decide (1000000 ≤ n2) with
      | true =>
        refine ⟨true, fun w => ?_⟩
        have HM := Aside0.mk (Blks.start w)
        go_enter Tryz.func39, Tryz.ntmps39
        go_upto_region 1 with ((with_reducible refine id_box ?_); (refine n_bx (x := .tmp 0) ?_; clear HM; intro b1 wq HM))
        have k0 := n_cell (b := b1) (o := 0); have k1 := n_cell (b := b1) (o := 1); have k2 := n_cell (b := b1) (o := 2)
        go_wp2_with fail
        go_ret
        exact ⟨rfl, HM.out.bel⟩
      | false =>
        refine ⟨false, fun w => ?_⟩
        have HM := Aside0.mk (Blks.start w)
        go_enter Tryz.func39, Tryz.ntmps39
        go_upto_region 1 with ((with_reducible refine id_box ?_); (refine n_bx (x := .tmp 0) ?_; clear HM; intro b1 wq HM))
        have k0 := n_cell (b := b1) (o := 0); have k1 := n_cell (b := b1) (o := 1); have k2 := n_cell (b := b1) (o := 2)
        go_wp2_with fail
        go_ret
        exact ⟨rfl, HM.out.bel⟩
theorem semT_size (n0 n1 n2 : Int) (a0 : 0 ≤ n0 ∧ n0 < 4294967296) (b0 : 0 ≤ n1 ∧ n1 < 4294967296) (c0 : 0 ≤ n2 ∧ n2 < 4294967296) : (semT n0 n1 n2 [] ⟨#[]⟩).size ≤ 100 := by
  have la := decB_size n0 a0.1 (by omega)
  have lb := decB_size n1 b0.1 (by omega)
  have lc := decB_size n2 c0.1 (by omega)
  have h : (semT n0 n1 n2 [] ⟨#[]⟩).data.toList.length = (semT n0 n1 n2 [] ⟨#[]⟩).size := Array.length_toList
  have e : ∀ n, (decB n).data.toList.length = (decB n).size := fun n => Array.length_toList
  rw [semT_list] at h
  simp only [List.length_append, List.length_cons, e] at h
  omega
set_option maxRecDepth 20000 in
set_option maxHeartbeats 4000000 in
theorem vsem_any (n0 n1 n2 : Int) (a0 : 0 ≤ n0 ∧ n0 < 4294967296) (b0 : 0 ≤ n1 ∧ n1 < 4294967296) (c0 : 0 ≤ n2 ∧ n2 < 4294967296) (pre : ByteArray) (hp : pre.size ≤ 140737488351232) (w : World) :
    Calls Tryz.prog 38 #[.agg #[.int .u32 n0, .int .u32 n1, .int .u32 n2], .string pre] w fun e w' => e = .returned (.string (vsT n0 n1 n2 pre)) ∧ Below w.heap.size w w' := by
  have HT := Lib.hid (fun W => semtext_main n0 n1 n2 0 ⟨a0.1, by omega⟩ ⟨b0.1, by omega⟩ ⟨c0.1, by omega⟩ ⟨#[]⟩ (by decide) (.slice none 0 0) [] (by simp) (by decide) W 0 (Or.inl ⟨rfl, rfl⟩))
  have hsz := semT_size n0 n1 n2 a0 b0 c0
  have w0 : IntKind.u64.wrap n0 = n0 := by simp [IntKind.wrap, IntKind.bits, IntKind.signed]; omega
  have w1 : IntKind.u64.wrap n1 = n1 := by simp [IntKind.wrap, IntKind.bits, IntKind.signed]; omega
  have w2 : IntKind.u64.wrap n2 = n2 := by simp [IntKind.wrap, IntKind.bits, IntKind.signed]; omega
  have HM := Aside0.mk (Blks.start w)
  unfold vsT
  by_cases he : pre = ⟨#[]⟩
  · rw [if_pos he]
    have e0 : pre.toList.isEmpty = true := by rw [he, ByteArray.toList_eq]; rfl
    generalize semT n0 n1 n2 [] ⟨#[]⟩ = t at HT hsz ⊢
    clear a0 b0 c0 he
    go_enter Tryz.func38, Tryz.ntmps38
    go_wp2_with (first | ((with_reducible refine id_box ?_); (refine n_bx (x := .tmp 0) ?_; clear HM; intro b1 wq HM)) | ((with_reducible refine id_load ?_); refine n_ld1 ?_) | (go_at_call 81; ((with_reducible refine (HT.out _).mono ?_); rintro e wt ⟨rfl, hb⟩; replace HM := n_call hb; clear hb)))
    go_ret
    exact ⟨rfl, HM.out.bel⟩
  · rw [if_neg he]
    have e0 : pre.toList.isEmpty = false := by
      cases h : pre.toList with
      | nil => exact absurd (nil_of_toList h) he
      | cons => rfl
    generalize semT n0 n1 n2 [] ⟨#[]⟩ = t at HT hsz ⊢
    have s1 : ¬ (9223372036854775807 < 1 + pre.size) := by omega
    have s2 : ¬ (9223372036854775807 < t.size + (1 + pre.size)) := by omega
    clear a0 b0 c0 he
    go_enter Tryz.func38, Tryz.ntmps38
    go_wp2_with (first | ((with_reducible refine id_box ?_); (refine n_bx (x := .tmp 0) ?_; clear HM; intro b1 wq HM)) | ((with_reducible refine id_load ?_); refine n_ld1 ?_) | (go_at_call 81; ((with_reducible refine (HT.out _).mono ?_); rintro e wt ⟨rfl, hb⟩; replace HM := n_call hb; clear hb)))
    go_ret
    exact ⟨rfl, HM.out.bel⟩
def VsEnd (r : Option Bool) (w : World) (e : Ending) (w' : World) : Prop := e = .returned (.tuple #[.bool (r.getD false), .bool r.isSome]) ∧ Below w.heap.size w w'
set_option maxRecDepth 20000 in
set_option maxHeartbeats 4000000 in
theorem clo_any (b5 : Nat) (va vb vc cv : Int) (Av : Option Addr) (nv qv : Nat) (vm : ByteArray) (xa xb xc y : Int) (w W : World) (hW : Below w.heap.size w W)
    (hso : ∀ W, Below w.heap.size w W → Calls Tryz.prog 82 #[.agg #[.int .u64 va, .int .u64 vb, .int .u64 vc, .int .i64 cv, .slice Av nv qv, .string vm], .agg #[.int .u64 xa, .int .u64 xb, .int .u64 xc, .int .i64 0, .slice none 0 0, .string ⟨#[]⟩]] W fun e w' => e = .returned (.int .i64 y) ∧ Below W.heap.size W w')
    (hr : W.rangeAt b5 0 [.int .u64 va, .int .u64 vb, .int .u64 vc, .int .i64 cv, .slice Av nv qv, .string vm]) :
    Calls Tryz.prog 83 #[.agg #[.int .u64 xa, .int .u64 xb, .int .u64 xc, .int .i64 0, .slice none 0 0, .string ⟨#[]⟩], .pointer (some ⟨b5, 0, none⟩)] W fun e w' => e = .returned (.bool (decide (y < 0))) ∧ Below W.heap.size W w' := by
  have HSO := Lib.hid (fun W2 (h : Below W.heap.size W W2) => hso W2 (below_trans hW h))
  have HR := Lib.hid (fun W2 (h : Below W.heap.size W W2) => (show W2.rangeAt b5 0 _ from fun j u hj => pw_cell_below h (hr j u hj)))
  have HM := Aside0.mk (Blks.start W)
  clear hso hr hW
  go_enter Tryz.func83, Tryz.ntmps83
  go_wp2_with (first | ((with_reducible refine id_box ?_); (refine n_bx (x := .tmp 0) ?_; clear HM; intro b2 wq HM)) | ((with_reducible refine id_load ?_); refine m_loadr (x := .tmp 1) (HR.out _ n_bel) rfl rfl ?_) | ((with_reducible refine id_load ?_); refine n_ld ?_) | (go_at_call 82; ((with_reducible refine (HSO.out _ n_bel).mono ?_); rintro e wo ⟨rfl, hb⟩; replace HM := n_call hb; clear hb)))
  go_ret
  exact ⟨rfl, HM.out.bel⟩
set_option maxRecDepth 20000 in
set_option maxHeartbeats 8000000 in
theorem vsg_none (u v : SV) (cu cv : Int) (Au Av : Option Addr) (nu nv qu qv : Nat) (w : World)
    (hso : ∀ W, Below w.heap.size w W → Calls Tryz.prog 82 #[.agg #[.int .u64 v.major, .int .u64 v.minor, .int .u64 v.patch, .int .i64 cv, .slice Av nv qv, .string v.mt], .agg #[.int .u64 u.major, .int .u64 u.minor, .int .u64 u.patch, .int .i64 cu, .slice Au nu qu, .string u.mt]] W fun e w' => e = .returned (.int .i64 (cmpV v u)) ∧ Below W.heap.size W w')
    (hsn : ∀ (x : SV) (hx : x.pre = ⟨#[]⟩ ∧ x.mt = ⟨#[]⟩) W, Below w.heap.size w W → Calls Tryz.prog 82 #[.agg #[.int .u64 v.major, .int .u64 v.minor, .int .u64 v.patch, .int .i64 cv, .slice Av nv qv, .string v.mt], .agg #[.int .u64 x.major, .int .u64 x.minor, .int .u64 x.patch, .int .i64 0, .slice none 0 0, .string ⟨#[]⟩]] W fun e w' => e = .returned (.int .i64 (cmpV v x)) ∧ Below W.heap.size W w') :
    Calls Tryz.prog 40 #[.string ⟨#[]⟩, .agg #[.int .u64 u.major, .int .u64 u.minor, .int .u64 u.patch, .int .i64 cu, .slice Au nu qu, .string u.mt], .agg #[.int .u64 v.major, .int .u64 v.minor, .int .u64 v.patch, .int .i64 cv, .slice Av nv qv, .string v.mt]] w (VsEnd (signD [] u v) w) := by
  have HSO := Lib.hid hso
  have HSN := Lib.hid hsn
  have HM := Aside0.mk (Blks.start w)
  clear hso hsn
  have hs : signD [] u v = some (cmpV v u == 0) := by simp [signD]
  rw [hs]
  generalize cmpV v u = c at HSO ⊢
  obtain ⟨ua, ub, uc, up, um, uo⟩ := u
  obtain ⟨va, vb, vc, vp, vm, vo⟩ := v
  dsimp only at HSO HSN ⊢
  go_enter Tryz.func40, Tryz.ntmps40
  go_wp2_with (first | (go_at_call 83; ((refine (clo_any b5 _ _ _ _ _ _ _ _ _ _ _ _ w _ n_bel HSN.out (Blks.range n_own n_mem n_rd)).mono ?_); rintro e wk ⟨rfl, hb⟩; replace HM := n_call hb; clear hb)) | ((with_reducible refine id_box (d := some 4) ?_); (refine n_bx (x := .tmp 1) ?_; clear HM; intro b4 wq HM)) | ((with_reducible refine id_box (d := some 5) ?_); (refine n_bx (x := .tmp 2) ?_; clear HM; intro b5 wq HM)) | ((with_reducible refine id_box (d := some 2) ?_); (refine n_bx (x := .tmp 0) ?_; clear HM; intro b6 wq HM)) | (go_at_call 82; ((with_reducible refine (HSO.out _ n_bel).mono ?_); rintro e wo ⟨rfl, hb⟩; replace HM := n_call hb; clear hb)) | (go_at_call 82; ((with_reducible refine (HSN.out _ n_bel).mono ?_); rintro e wn ⟨rfl, hb⟩; replace HM := n_call hb; clear hb)) | ((with_reducible refine id_load ?_); refine n_ld ?_) | ((with_reducible refine id_load ?_); refine n_ld1 ?_))
  go_ret2
  exact ⟨rfl, HM.out.bel⟩
set_option maxRecDepth 20000 in
set_option maxHeartbeats 8000000 in
theorem vsg_eq (u v : SV) (cu cv : Int) (Au Av : Option Addr) (nu nv qu qv : Nat) (w : World)
    (hso : ∀ W, Below w.heap.size w W → Calls Tryz.prog 82 #[.agg #[.int .u64 v.major, .int .u64 v.minor, .int .u64 v.patch, .int .i64 cv, .slice Av nv qv, .string v.mt], .agg #[.int .u64 u.major, .int .u64 u.minor, .int .u64 u.patch, .int .i64 cu, .slice Au nu qu, .string u.mt]] W fun e w' => e = .returned (.int .i64 (cmpV v u)) ∧ Below W.heap.size W w')
    (hsn : ∀ (x : SV) (hx : x.pre = ⟨#[]⟩ ∧ x.mt = ⟨#[]⟩) W, Below w.heap.size w W → Calls Tryz.prog 82 #[.agg #[.int .u64 v.major, .int .u64 v.minor, .int .u64 v.patch, .int .i64 cv, .slice Av nv qv, .string v.mt], .agg #[.int .u64 x.major, .int .u64 x.minor, .int .u64 x.patch, .int .i64 0, .slice none 0 0, .string ⟨#[]⟩]] W fun e w' => e = .returned (.int .i64 (cmpV v x)) ∧ Below W.heap.size W w') :
    Calls Tryz.prog 40 #[.string ⟨#[61]⟩, .agg #[.int .u64 u.major, .int .u64 u.minor, .int .u64 u.patch, .int .i64 cu, .slice Au nu qu, .string u.mt], .agg #[.int .u64 v.major, .int .u64 v.minor, .int .u64 v.patch, .int .i64 cv, .slice Av nv qv, .string v.mt]] w (VsEnd (signD [61] u v) w) := by
  have HSO := Lib.hid hso
  have HSN := Lib.hid hsn
  have HM := Aside0.mk (Blks.start w)
  clear hso hsn
  have hs : signD [61] u v = some (cmpV v u == 0) := by simp [signD]
  rw [hs]
  generalize cmpV v u = c at HSO ⊢
  obtain ⟨ua, ub, uc, up, um, uo⟩ := u
  obtain ⟨va, vb, vc, vp, vm, vo⟩ := v
  dsimp only at HSO HSN ⊢
  go_enter Tryz.func40, Tryz.ntmps40
  go_wp2_with (first | (go_at_call 83; ((refine (clo_any b5 _ _ _ _ _ _ _ _ _ _ _ _ w _ n_bel HSN.out (Blks.range n_own n_mem n_rd)).mono ?_); rintro e wk ⟨rfl, hb⟩; replace HM := n_call hb; clear hb)) | ((with_reducible refine id_box (d := some 4) ?_); (refine n_bx (x := .tmp 1) ?_; clear HM; intro b4 wq HM)) | ((with_reducible refine id_box (d := some 5) ?_); (refine n_bx (x := .tmp 2) ?_; clear HM; intro b5 wq HM)) | ((with_reducible refine id_box (d := some 2) ?_); (refine n_bx (x := .tmp 0) ?_; clear HM; intro b6 wq HM)) | (go_at_call 82; ((with_reducible refine (HSO.out _ n_bel).mono ?_); rintro e wo ⟨rfl, hb⟩; replace HM := n_call hb; clear hb)) | (go_at_call 82; ((with_reducible refine (HSN.out _ n_bel).mono ?_); rintro e wn ⟨rfl, hb⟩; replace HM := n_call hb; clear hb)) | ((with_reducible refine id_load ?_); refine n_ld ?_) | ((with_reducible refine id_load ?_); refine n_ld1 ?_))
  go_ret2
  exact ⟨rfl, HM.out.bel⟩
set_option maxRecDepth 20000 in
set_option maxHeartbeats 8000000 in
theorem vsg_ne (u v : SV) (cu cv : Int) (Au Av : Option Addr) (nu nv qu qv : Nat) (w : World)
    (hso : ∀ W, Below w.heap.size w W → Calls Tryz.prog 82 #[.agg #[.int .u64 v.major, .int .u64 v.minor, .int .u64 v.patch, .int .i64 cv, .slice Av nv qv, .string v.mt], .agg #[.int .u64 u.major, .int .u64 u.minor, .int .u64 u.patch, .int .i64 cu, .slice Au nu qu, .string u.mt]] W fun e w' => e = .returned (.int .i64 (cmpV v u)) ∧ Below W.heap.size W w')
    (hsn : ∀ (x : SV) (hx : x.pre = ⟨#[]⟩ ∧ x.mt = ⟨#[]⟩) W, Below w.heap.size w W → Calls Tryz.prog 82 #[.agg #[.int .u64 v.major, .int .u64 v.minor, .int .u64 v.patch, .int .i64 cv, .slice Av nv qv, .string v.mt], .agg #[.int .u64 x.major, .int .u64 x.minor, .int .u64 x.patch, .int .i64 0, .slice none 0 0, .string ⟨#[]⟩]] W fun e w' => e = .returned (.int .i64 (cmpV v x)) ∧ Below W.heap.size W w') :
    Calls Tryz.prog 40 #[.string ⟨#[33, 61]⟩, .agg #[.int .u64 u.major, .int .u64 u.minor, .int .u64 u.patch, .int .i64 cu, .slice Au nu qu, .string u.mt], .agg #[.int .u64 v.major, .int .u64 v.minor, .int .u64 v.patch, .int .i64 cv, .slice Av nv qv, .string v.mt]] w (VsEnd (signD [33, 61] u v) w) := by
  have HSO := Lib.hid hso
  have HSN := Lib.hid hsn
  have HM := Aside0.mk (Blks.start w)
  clear hso hsn
  have hs : signD [33, 61] u v = some (!(cmpV v u == 0)) := by simp [signD]
  rw [hs]
  generalize cmpV v u = c at HSO ⊢
  obtain ⟨ua, ub, uc, up, um, uo⟩ := u
  obtain ⟨va, vb, vc, vp, vm, vo⟩ := v
  dsimp only at HSO HSN ⊢
  go_enter Tryz.func40, Tryz.ntmps40
  go_wp2_with (first | (go_at_call 83; ((refine (clo_any b5 _ _ _ _ _ _ _ _ _ _ _ _ w _ n_bel HSN.out (Blks.range n_own n_mem n_rd)).mono ?_); rintro e wk ⟨rfl, hb⟩; replace HM := n_call hb; clear hb)) | ((with_reducible refine id_box (d := some 4) ?_); (refine n_bx (x := .tmp 1) ?_; clear HM; intro b4 wq HM)) | ((with_reducible refine id_box (d := some 5) ?_); (refine n_bx (x := .tmp 2) ?_; clear HM; intro b5 wq HM)) | ((with_reducible refine id_box (d := some 2) ?_); (refine n_bx (x := .tmp 0) ?_; clear HM; intro b6 wq HM)) | (go_at_call 82; ((with_reducible refine (HSO.out _ n_bel).mono ?_); rintro e wo ⟨rfl, hb⟩; replace HM := n_call hb; clear hb)) | (go_at_call 82; ((with_reducible refine (HSN.out _ n_bel).mono ?_); rintro e wn ⟨rfl, hb⟩; replace HM := n_call hb; clear hb)) | ((with_reducible refine id_load ?_); refine n_ld ?_) | ((with_reducible refine id_load ?_); refine n_ld1 ?_))
  go_ret2
  exact ⟨rfl, HM.out.bel⟩
set_option maxRecDepth 20000 in
set_option maxHeartbeats 8000000 in
theorem vsg_gt (u v : SV) (cu cv : Int) (Au Av : Option Addr) (nu nv qu qv : Nat) (w : World)
    (hso : ∀ W, Below w.heap.size w W → Calls Tryz.prog 82 #[.agg #[.int .u64 v.major, .int .u64 v.minor, .int .u64 v.patch, .int .i64 cv, .slice Av nv qv, .string v.mt], .agg #[.int .u64 u.major, .int .u64 u.minor, .int .u64 u.patch, .int .i64 cu, .slice Au nu qu, .string u.mt]] W fun e w' => e = .returned (.int .i64 (cmpV v u)) ∧ Below W.heap.size W w')
    (hsn : ∀ (x : SV) (hx : x.pre = ⟨#[]⟩ ∧ x.mt = ⟨#[]⟩) W, Below w.heap.size w W → Calls Tryz.prog 82 #[.agg #[.int .u64 v.major, .int .u64 v.minor, .int .u64 v.patch, .int .i64 cv, .slice Av nv qv, .string v.mt], .agg #[.int .u64 x.major, .int .u64 x.minor, .int .u64 x.patch, .int .i64 0, .slice none 0 0, .string ⟨#[]⟩]] W fun e w' => e = .returned (.int .i64 (cmpV v x)) ∧ Below W.heap.size W w') :
    Calls Tryz.prog 40 #[.string ⟨#[62]⟩, .agg #[.int .u64 u.major, .int .u64 u.minor, .int .u64 u.patch, .int .i64 cu, .slice Au nu qu, .string u.mt], .agg #[.int .u64 v.major, .int .u64 v.minor, .int .u64 v.patch, .int .i64 cv, .slice Av nv qv, .string v.mt]] w (VsEnd (signD [62] u v) w) := by
  have HSO := Lib.hid hso
  have HSN := Lib.hid hsn
  have HM := Aside0.mk (Blks.start w)
  clear hso hsn
  have hs : signD [62] u v = some (decide (0 < cmpV v u)) := by simp [signD]
  rw [hs]
  generalize cmpV v u = c at HSO ⊢
  obtain ⟨ua, ub, uc, up, um, uo⟩ := u
  obtain ⟨va, vb, vc, vp, vm, vo⟩ := v
  dsimp only at HSO HSN ⊢
  go_enter Tryz.func40, Tryz.ntmps40
  go_wp2_with (first | (go_at_call 83; ((refine (clo_any b5 _ _ _ _ _ _ _ _ _ _ _ _ w _ n_bel HSN.out (Blks.range n_own n_mem n_rd)).mono ?_); rintro e wk ⟨rfl, hb⟩; replace HM := n_call hb; clear hb)) | ((with_reducible refine id_box (d := some 4) ?_); (refine n_bx (x := .tmp 1) ?_; clear HM; intro b4 wq HM)) | ((with_reducible refine id_box (d := some 5) ?_); (refine n_bx (x := .tmp 2) ?_; clear HM; intro b5 wq HM)) | ((with_reducible refine id_box (d := some 2) ?_); (refine n_bx (x := .tmp 0) ?_; clear HM; intro b6 wq HM)) | (go_at_call 82; ((with_reducible refine (HSO.out _ n_bel).mono ?_); rintro e wo ⟨rfl, hb⟩; replace HM := n_call hb; clear hb)) | (go_at_call 82; ((with_reducible refine (HSN.out _ n_bel).mono ?_); rintro e wn ⟨rfl, hb⟩; replace HM := n_call hb; clear hb)) | ((with_reducible refine id_load ?_); refine n_ld ?_) | ((with_reducible refine id_load ?_); refine n_ld1 ?_))
  go_ret2
  exact ⟨rfl, HM.out.bel⟩
set_option maxRecDepth 20000 in
set_option maxHeartbeats 8000000 in
theorem vsg_ge (u v : SV) (cu cv : Int) (Au Av : Option Addr) (nu nv qu qv : Nat) (w : World)
    (hso : ∀ W, Below w.heap.size w W → Calls Tryz.prog 82 #[.agg #[.int .u64 v.major, .int .u64 v.minor, .int .u64 v.patch, .int .i64 cv, .slice Av nv qv, .string v.mt], .agg #[.int .u64 u.major, .int .u64 u.minor, .int .u64 u.patch, .int .i64 cu, .slice Au nu qu, .string u.mt]] W fun e w' => e = .returned (.int .i64 (cmpV v u)) ∧ Below W.heap.size W w')
    (hsn : ∀ (x : SV) (hx : x.pre = ⟨#[]⟩ ∧ x.mt = ⟨#[]⟩) W, Below w.heap.size w W → Calls Tryz.prog 82 #[.agg #[.int .u64 v.major, .int .u64 v.minor, .int .u64 v.patch, .int .i64 cv, .slice Av nv qv, .string v.mt], .agg #[.int .u64 x.major, .int .u64 x.minor, .int .u64 x.patch, .int .i64 0, .slice none 0 0, .string ⟨#[]⟩]] W fun e w' => e = .returned (.int .i64 (cmpV v x)) ∧ Below W.heap.size W w') :
    Calls Tryz.prog 40 #[.string ⟨#[62, 61]⟩, .agg #[.int .u64 u.major, .int .u64 u.minor, .int .u64 u.patch, .int .i64 cu, .slice Au nu qu, .string u.mt], .agg #[.int .u64 v.major, .int .u64 v.minor, .int .u64 v.patch, .int .i64 cv, .slice Av nv qv, .string v.mt]] w (VsEnd (signD [62, 61] u v) w) := by
  have HSO := Lib.hid hso
  have HSN := Lib.hid hsn
  have HM := Aside0.mk (Blks.start w)
  clear hso hsn
  have hs : signD [62, 61] u v = some (decide (0 ≤ cmpV v u)) := by simp [signD]
  rw [hs]
  generalize cmpV v u = c at HSO ⊢
  obtain ⟨ua, ub, uc, up, um, uo⟩ := u
  obtain ⟨va, vb, vc, vp, vm, vo⟩ := v
  dsimp only at HSO HSN ⊢
  go_enter Tryz.func40, Tryz.ntmps40
  go_wp2_with (first | (go_at_call 83; ((refine (clo_any b5 _ _ _ _ _ _ _ _ _ _ _ _ w _ n_bel HSN.out (Blks.range n_own n_mem n_rd)).mono ?_); rintro e wk ⟨rfl, hb⟩; replace HM := n_call hb; clear hb)) | ((with_reducible refine id_box (d := some 4) ?_); (refine n_bx (x := .tmp 1) ?_; clear HM; intro b4 wq HM)) | ((with_reducible refine id_box (d := some 5) ?_); (refine n_bx (x := .tmp 2) ?_; clear HM; intro b5 wq HM)) | ((with_reducible refine id_box (d := some 2) ?_); (refine n_bx (x := .tmp 0) ?_; clear HM; intro b6 wq HM)) | (go_at_call 82; ((with_reducible refine (HSO.out _ n_bel).mono ?_); rintro e wo ⟨rfl, hb⟩; replace HM := n_call hb; clear hb)) | (go_at_call 82; ((with_reducible refine (HSN.out _ n_bel).mono ?_); rintro e wn ⟨rfl, hb⟩; replace HM := n_call hb; clear hb)) | ((with_reducible refine id_load ?_); refine n_ld ?_) | ((with_reducible refine id_load ?_); refine n_ld1 ?_))
  go_ret2
  exact ⟨rfl, HM.out.bel⟩
set_option maxRecDepth 20000 in
set_option maxHeartbeats 8000000 in
theorem vsg_eg (u v : SV) (cu cv : Int) (Au Av : Option Addr) (nu nv qu qv : Nat) (w : World)
    (hso : ∀ W, Below w.heap.size w W → Calls Tryz.prog 82 #[.agg #[.int .u64 v.major, .int .u64 v.minor, .int .u64 v.patch, .int .i64 cv, .slice Av nv qv, .string v.mt], .agg #[.int .u64 u.major, .int .u64 u.minor, .int .u64 u.patch, .int .i64 cu, .slice Au nu qu, .string u.mt]] W fun e w' => e = .returned (.int .i64 (cmpV v u)) ∧ Below W.heap.size W w')
    (hsn : ∀ (x : SV) (hx : x.pre = ⟨#[]⟩ ∧ x.mt = ⟨#[]⟩) W, Below w.heap.size w W → Calls Tryz.prog 82 #[.agg #[.int .u64 v.major, .int .u64 v.minor, .int .u64 v.patch, .int .i64 cv, .slice Av nv qv, .string v.mt], .agg #[.int .u64 x.major, .int .u64 x.minor, .int .u64 x.patch, .int .i64 0, .slice none 0 0, .string ⟨#[]⟩]] W fun e w' => e = .returned (.int .i64 (cmpV v x)) ∧ Below W.heap.size W w') :
    Calls Tryz.prog 40 #[.string ⟨#[61, 62]⟩, .agg #[.int .u64 u.major, .int .u64 u.minor, .int .u64 u.patch, .int .i64 cu, .slice Au nu qu, .string u.mt], .agg #[.int .u64 v.major, .int .u64 v.minor, .int .u64 v.patch, .int .i64 cv, .slice Av nv qv, .string v.mt]] w (VsEnd (signD [61, 62] u v) w) := by
  have HSO := Lib.hid hso
  have HSN := Lib.hid hsn
  have HM := Aside0.mk (Blks.start w)
  clear hso hsn
  have hs : signD [61, 62] u v = some (decide (0 ≤ cmpV v u)) := by simp [signD]
  rw [hs]
  generalize cmpV v u = c at HSO ⊢
  obtain ⟨ua, ub, uc, up, um, uo⟩ := u
  obtain ⟨va, vb, vc, vp, vm, vo⟩ := v
  dsimp only at HSO HSN ⊢
  go_enter Tryz.func40, Tryz.ntmps40
  go_wp2_with (first | (go_at_call 83; ((refine (clo_any b5 _ _ _ _ _ _ _ _ _ _ _ _ w _ n_bel HSN.out (Blks.range n_own n_mem n_rd)).mono ?_); rintro e wk ⟨rfl, hb⟩; replace HM := n_call hb; clear hb)) | ((with_reducible refine id_box (d := some 4) ?_); (refine n_bx (x := .tmp 1) ?_; clear HM; intro b4 wq HM)) | ((with_reducible refine id_box (d := some 5) ?_); (refine n_bx (x := .tmp 2) ?_; clear HM; intro b5 wq HM)) | ((with_reducible refine id_box (d := some 2) ?_); (refine n_bx (x := .tmp 0) ?_; clear HM; intro b6 wq HM)) | (go_at_call 82; ((with_reducible refine (HSO.out _ n_bel).mono ?_); rintro e wo ⟨rfl, hb⟩; replace HM := n_call hb; clear hb)) | (go_at_call 82; ((with_reducible refine (HSN.out _ n_bel).mono ?_); rintro e wn ⟨rfl, hb⟩; replace HM := n_call hb; clear hb)) | ((with_reducible refine id_load ?_); refine n_ld ?_) | ((with_reducible refine id_load ?_); refine n_ld1 ?_))
  go_ret2
  exact ⟨rfl, HM.out.bel⟩
set_option maxRecDepth 20000 in
set_option maxHeartbeats 8000000 in
theorem vsg_lt (u v : SV) (cu cv : Int) (Au Av : Option Addr) (nu nv qu qv : Nat) (w : World)
    (hso : ∀ W, Below w.heap.size w W → Calls Tryz.prog 82 #[.agg #[.int .u64 v.major, .int .u64 v.minor, .int .u64 v.patch, .int .i64 cv, .slice Av nv qv, .string v.mt], .agg #[.int .u64 u.major, .int .u64 u.minor, .int .u64 u.patch, .int .i64 cu, .slice Au nu qu, .string u.mt]] W fun e w' => e = .returned (.int .i64 (cmpV v u)) ∧ Below W.heap.size W w')
    (hsn : ∀ (x : SV) (hx : x.pre = ⟨#[]⟩ ∧ x.mt = ⟨#[]⟩) W, Below w.heap.size w W → Calls Tryz.prog 82 #[.agg #[.int .u64 v.major, .int .u64 v.minor, .int .u64 v.patch, .int .i64 cv, .slice Av nv qv, .string v.mt], .agg #[.int .u64 x.major, .int .u64 x.minor, .int .u64 x.patch, .int .i64 0, .slice none 0 0, .string ⟨#[]⟩]] W fun e w' => e = .returned (.int .i64 (cmpV v x)) ∧ Below W.heap.size W w') :
    Calls Tryz.prog 40 #[.string ⟨#[60]⟩, .agg #[.int .u64 u.major, .int .u64 u.minor, .int .u64 u.patch, .int .i64 cu, .slice Au nu qu, .string u.mt], .agg #[.int .u64 v.major, .int .u64 v.minor, .int .u64 v.patch, .int .i64 cv, .slice Av nv qv, .string v.mt]] w (VsEnd (signD [60] u v) w) := by
  have HSO := Lib.hid hso
  have HSN := Lib.hid hsn
  have HM := Aside0.mk (Blks.start w)
  clear hso hsn
  have hs : signD [60] u v = some (decide (cmpV v u < 0)) := by simp [signD]
  rw [hs]
  generalize cmpV v u = c at HSO ⊢
  obtain ⟨ua, ub, uc, up, um, uo⟩ := u
  obtain ⟨va, vb, vc, vp, vm, vo⟩ := v
  dsimp only at HSO HSN ⊢
  go_enter Tryz.func40, Tryz.ntmps40
  go_wp2_with (first | (go_at_call 83; ((refine (clo_any b5 _ _ _ _ _ _ _ _ _ _ _ _ w _ n_bel HSN.out (Blks.range n_own n_mem n_rd)).mono ?_); rintro e wk ⟨rfl, hb⟩; replace HM := n_call hb; clear hb)) | ((with_reducible refine id_box (d := some 4) ?_); (refine n_bx (x := .tmp 1) ?_; clear HM; intro b4 wq HM)) | ((with_reducible refine id_box (d := some 5) ?_); (refine n_bx (x := .tmp 2) ?_; clear HM; intro b5 wq HM)) | ((with_reducible refine id_box (d := some 2) ?_); (refine n_bx (x := .tmp 0) ?_; clear HM; intro b6 wq HM)) | (go_at_call 82; ((with_reducible refine (HSO.out _ n_bel).mono ?_); rintro e wo ⟨rfl, hb⟩; replace HM := n_call hb; clear hb)) | (go_at_call 82; ((with_reducible refine (HSN.out _ n_bel).mono ?_); rintro e wn ⟨rfl, hb⟩; replace HM := n_call hb; clear hb)) | ((with_reducible refine id_load ?_); refine n_ld ?_) | ((with_reducible refine id_load ?_); refine n_ld1 ?_))
  go_ret2
  exact ⟨rfl, HM.out.bel⟩
set_option maxRecDepth 20000 in
set_option maxHeartbeats 8000000 in
theorem vsg_le (u v : SV) (cu cv : Int) (Au Av : Option Addr) (nu nv qu qv : Nat) (w : World)
    (hso : ∀ W, Below w.heap.size w W → Calls Tryz.prog 82 #[.agg #[.int .u64 v.major, .int .u64 v.minor, .int .u64 v.patch, .int .i64 cv, .slice Av nv qv, .string v.mt], .agg #[.int .u64 u.major, .int .u64 u.minor, .int .u64 u.patch, .int .i64 cu, .slice Au nu qu, .string u.mt]] W fun e w' => e = .returned (.int .i64 (cmpV v u)) ∧ Below W.heap.size W w')
    (hsn : ∀ (x : SV) (hx : x.pre = ⟨#[]⟩ ∧ x.mt = ⟨#[]⟩) W, Below w.heap.size w W → Calls Tryz.prog 82 #[.agg #[.int .u64 v.major, .int .u64 v.minor, .int .u64 v.patch, .int .i64 cv, .slice Av nv qv, .string v.mt], .agg #[.int .u64 x.major, .int .u64 x.minor, .int .u64 x.patch, .int .i64 0, .slice none 0 0, .string ⟨#[]⟩]] W fun e w' => e = .returned (.int .i64 (cmpV v x)) ∧ Below W.heap.size W w') :
    Calls Tryz.prog 40 #[.string ⟨#[60, 61]⟩, .agg #[.int .u64 u.major, .int .u64 u.minor, .int .u64 u.patch, .int .i64 cu, .slice Au nu qu, .string u.mt], .agg #[.int .u64 v.major, .int .u64 v.minor, .int .u64 v.patch, .int .i64 cv, .slice Av nv qv, .string v.mt]] w (VsEnd (signD [60, 61] u v) w) := by
  have HSO := Lib.hid hso
  have HSN := Lib.hid hsn
  have HM := Aside0.mk (Blks.start w)
  clear hso hsn
  have hs : signD [60, 61] u v = some (decide (cmpV v u ≤ 0)) := by simp [signD]
  rw [hs]
  generalize cmpV v u = c at HSO ⊢
  obtain ⟨ua, ub, uc, up, um, uo⟩ := u
  obtain ⟨va, vb, vc, vp, vm, vo⟩ := v
  dsimp only at HSO HSN ⊢
  go_enter Tryz.func40, Tryz.ntmps40
  go_wp2_with (first | (go_at_call 83; ((refine (clo_any b5 _ _ _ _ _ _ _ _ _ _ _ _ w _ n_bel HSN.out (Blks.range n_own n_mem n_rd)).mono ?_); rintro e wk ⟨rfl, hb⟩; replace HM := n_call hb; clear hb)) | ((with_reducible refine id_box (d := some 4) ?_); (refine n_bx (x := .tmp 1) ?_; clear HM; intro b4 wq HM)) | ((with_reducible refine id_box (d := some 5) ?_); (refine n_bx (x := .tmp 2) ?_; clear HM; intro b5 wq HM)) | ((with_reducible refine id_box (d := some 2) ?_); (refine n_bx (x := .tmp 0) ?_; clear HM; intro b6 wq HM)) | (go_at_call 82; ((with_reducible refine (HSO.out _ n_bel).mono ?_); rintro e wo ⟨rfl, hb⟩; replace HM := n_call hb; clear hb)) | (go_at_call 82; ((with_reducible refine (HSN.out _ n_bel).mono ?_); rintro e wn ⟨rfl, hb⟩; replace HM := n_call hb; clear hb)) | ((with_reducible refine id_load ?_); refine n_ld ?_) | ((with_reducible refine id_load ?_); refine n_ld1 ?_))
  go_ret2
  exact ⟨rfl, HM.out.bel⟩
set_option maxRecDepth 20000 in
set_option maxHeartbeats 8000000 in
theorem vsg_el (u v : SV) (cu cv : Int) (Au Av : Option Addr) (nu nv qu qv : Nat) (w : World)
    (hso : ∀ W, Below w.heap.size w W → Calls Tryz.prog 82 #[.agg #[.int .u64 v.major, .int .u64 v.minor, .int .u64 v.patch, .int .i64 cv, .slice Av nv qv, .string v.mt], .agg #[.int .u64 u.major, .int .u64 u.minor, .int .u64 u.patch, .int .i64 cu, .slice Au nu qu, .string u.mt]] W fun e w' => e = .returned (.int .i64 (cmpV v u)) ∧ Below W.heap.size W w')
    (hsn : ∀ (x : SV) (hx : x.pre = ⟨#[]⟩ ∧ x.mt = ⟨#[]⟩) W, Below w.heap.size w W → Calls Tryz.prog 82 #[.agg #[.int .u64 v.major, .int .u64 v.minor, .int .u64 v.patch, .int .i64 cv, .slice Av nv qv, .string v.mt], .agg #[.int .u64 x.major, .int .u64 x.minor, .int .u64 x.patch, .int .i64 0, .slice none 0 0, .string ⟨#[]⟩]] W fun e w' => e = .returned (.int .i64 (cmpV v x)) ∧ Below W.heap.size W w') :
    Calls Tryz.prog 40 #[.string ⟨#[61, 60]⟩, .agg #[.int .u64 u.major, .int .u64 u.minor, .int .u64 u.patch, .int .i64 cu, .slice Au nu qu, .string u.mt], .agg #[.int .u64 v.major, .int .u64 v.minor, .int .u64 v.patch, .int .i64 cv, .slice Av nv qv, .string v.mt]] w (VsEnd (signD [61, 60] u v) w) := by
  have HSO := Lib.hid hso
  have HSN := Lib.hid hsn
  have HM := Aside0.mk (Blks.start w)
  clear hso hsn
  have hs : signD [61, 60] u v = some (decide (cmpV v u ≤ 0)) := by simp [signD]
  rw [hs]
  generalize cmpV v u = c at HSO ⊢
  obtain ⟨ua, ub, uc, up, um, uo⟩ := u
  obtain ⟨va, vb, vc, vp, vm, vo⟩ := v
  dsimp only at HSO HSN ⊢
  go_enter Tryz.func40, Tryz.ntmps40
  go_wp2_with (first | (go_at_call 83; ((refine (clo_any b5 _ _ _ _ _ _ _ _ _ _ _ _ w _ n_bel HSN.out (Blks.range n_own n_mem n_rd)).mono ?_); rintro e wk ⟨rfl, hb⟩; replace HM := n_call hb; clear hb)) | ((with_reducible refine id_box (d := some 4) ?_); (refine n_bx (x := .tmp 1) ?_; clear HM; intro b4 wq HM)) | ((with_reducible refine id_box (d := some 5) ?_); (refine n_bx (x := .tmp 2) ?_; clear HM; intro b5 wq HM)) | ((with_reducible refine id_box (d := some 2) ?_); (refine n_bx (x := .tmp 0) ?_; clear HM; intro b6 wq HM)) | (go_at_call 82; ((with_reducible refine (HSO.out _ n_bel).mono ?_); rintro e wo ⟨rfl, hb⟩; replace HM := n_call hb; clear hb)) | (go_at_call 82; ((with_reducible refine (HSN.out _ n_bel).mono ?_); rintro e wn ⟨rfl, hb⟩; replace HM := n_call hb; clear hb)) | ((with_reducible refine id_load ?_); refine n_ld ?_) | ((with_reducible refine id_load ?_); refine n_ld1 ?_))
  go_ret2
  exact ⟨rfl, HM.out.bel⟩
set_option maxRecDepth 20000 in
set_option maxHeartbeats 8000000 in
theorem vsg_ti (u v : SV) (cu cv : Int) (Au Av : Option Addr) (nu nv qu qv : Nat) (w : World)
    (hso : ∀ W, Below w.heap.size w W → Calls Tryz.prog 82 #[.agg #[.int .u64 v.major, .int .u64 v.minor, .int .u64 v.patch, .int .i64 cv, .slice Av nv qv, .string v.mt], .agg #[.int .u64 u.major, .int .u64 u.minor, .int .u64 u.patch, .int .i64 cu, .slice Au nu qu, .string u.mt]] W fun e w' => e = .returned (.int .i64 (cmpV v u)) ∧ Below W.heap.size W w')
    (hsn : ∀ (x : SV) (hx : x.pre = ⟨#[]⟩ ∧ x.mt = ⟨#[]⟩) W, Below w.heap.size w W → Calls Tryz.prog 82 #[.agg #[.int .u64 v.major, .int .u64 v.minor, .int .u64 v.patch, .int .i64 cv, .slice Av nv qv, .string v.mt], .agg #[.int .u64 x.major, .int .u64 x.minor, .int .u64 x.patch, .int .i64 0, .slice none 0 0, .string ⟨#[]⟩]] W fun e w' => e = .returned (.int .i64 (cmpV v x)) ∧ Below W.heap.size W w') :
    Calls Tryz.prog 40 #[.string ⟨#[126]⟩, .agg #[.int .u64 u.major, .int .u64 u.minor, .int .u64 u.patch, .int .i64 cu, .slice Au nu qu, .string u.mt], .agg #[.int .u64 v.major, .int .u64 v.minor, .int .u64 v.patch, .int .i64 cv, .slice Av nv qv, .string v.mt]] w (VsEnd (signD [126] u v) w) := by
  have HSO := Lib.hid hso
  have HSN := Lib.hid hsn
  have HM := Aside0.mk (Blks.start w)
  clear hso hsn
  have hs : signD [126] u v = some (decide (0 ≤ cmpV v u) && decide (cmpV v (afterV u 2) < 0)) := by simp [signD]
  rw [hs]
  generalize hc : cmpV v u = c at HSO ⊢
  clear hc
  obtain ⟨ua, ub, uc, up, um, uo⟩ := u
  have ha : afterV ⟨ua, ub, uc, up, um, uo⟩ 2 = ⟨ua, u64w (ub + 1), 0, ⟨#[]⟩, ⟨#[]⟩, ⟨#[]⟩⟩ := rfl
  rw [ha]
  have hw : IntKind.u64.wrap (ub + 1) = u64w (ub + 1) := rfl
  generalize u64w (ub + 1) = z at hw ⊢
  cases hc0 : decide (0 ≤ c) with
  | true =>
    have HSN2 := Lib.hid (HSN.out ⟨ua, z, 0, ⟨#[]⟩, ⟨#[]⟩, ⟨#[]⟩⟩ ⟨rfl, rfl⟩)
    generalize cmpV v ⟨ua, z, 0, ⟨#[]⟩, ⟨#[]⟩, ⟨#[]⟩⟩ = y at HSN2 ⊢
    clear HSN
    have HSN := HSN2
    clear HSN2
    obtain ⟨va, vb, vc, vp, vm, vo⟩ := v
    dsimp only at HSO HSN ⊢
    go_enter Tryz.func40, Tryz.ntmps40
    go_upto_region 3 with (first | (go_at_call 83; ((refine (clo_any b5 _ _ _ _ _ _ _ _ _ _ _ _ w _ n_bel HSN.out (Blks.range n_own n_mem n_rd)).mono ?_); rintro e wk ⟨rfl, hb⟩; replace HM := n_call hb; clear hb)) | ((with_reducible refine id_box (d := some 4) ?_); (refine n_bx (x := .tmp 1) ?_; clear HM; intro b4 wq HM)) | ((with_reducible refine id_box (d := some 5) ?_); (refine n_bx (x := .tmp 2) ?_; clear HM; intro b5 wq HM)) | ((with_reducible refine id_box (d := some 2) ?_); (refine n_bx (x := .tmp 0) ?_; clear HM; intro b6 wq HM)) | (go_at_call 82; ((with_reducible refine (HSO.out _ n_bel).mono ?_); rintro e wo ⟨rfl, hb⟩; replace HM := n_call hb; clear hb)) | (go_at_call 82; ((with_reducible refine (HSN.out _ n_bel).mono ?_); rintro e wn ⟨rfl, hb⟩; replace HM := n_call hb; clear hb)) | ((with_reducible refine id_load ?_); refine n_ld ?_) | ((with_reducible refine id_load ?_); refine n_ld1 ?_))
    have k0 := n_cell (b := b4) (o := 0); have k1 := n_cell (b := b4) (o := 1); have k2 := n_cell (b := b4) (o := 2); have k3 := n_cell (b := b4) (o := 3); have k4 := n_cell (b := b4) (o := 4); have k5 := n_cell (b := b4) (o := 5)
    go_wp2_with (first | (go_at_call 83; ((refine (clo_any b5 _ _ _ _ _ _ _ _ _ _ _ _ w _ n_bel HSN.out (Blks.range n_own n_mem n_rd)).mono ?_); rintro e wk ⟨rfl, hb⟩; replace HM := n_call hb; clear hb)) | ((with_reducible refine id_box (d := some 4) ?_); (refine n_bx (x := .tmp 1) ?_; clear HM; intro b4 wq HM)) | ((with_reducible refine id_box (d := some 5) ?_); (refine n_bx (x := .tmp 2) ?_; clear HM; intro b5 wq HM)) | ((with_reducible refine id_box (d := some 2) ?_); (refine n_bx (x := .tmp 0) ?_; clear HM; intro b6 wq HM)) | (go_at_call 82; ((with_reducible refine (HSO.out _ n_bel).mono ?_); rintro e wo ⟨rfl, hb⟩; replace HM := n_call hb; clear hb)) | (go_at_call 82; ((with_reducible refine (HSN.out _ n_bel).mono ?_); rintro e wn ⟨rfl, hb⟩; replace HM := n_call hb; clear hb)) | ((with_reducible refine id_load ?_); refine n_ld ?_) | ((with_reducible refine id_load ?_); refine n_ld1 ?_))
    go_ret2
    exact ⟨by first | rfl | simp [hc0], HM.out.bel⟩
  | false =>
    have HSN2 := Lib.hid (HSN.out ⟨ua, z, 0, ⟨#[]⟩, ⟨#[]⟩, ⟨#[]⟩⟩ ⟨rfl, rfl⟩)
    generalize cmpV v ⟨ua, z, 0, ⟨#[]⟩, ⟨#[]⟩, ⟨#[]⟩⟩ = y at HSN2 ⊢
    clear HSN
    have HSN := HSN2
    clear HSN2
    obtain ⟨va, vb, vc, vp, vm, vo⟩ := v
    dsimp only at HSO HSN ⊢
    go_enter Tryz.func40, Tryz.ntmps40
    go_upto_region 3 with (first | (go_at_call 83; ((refine (clo_any b5 _ _ _ _ _ _ _ _ _ _ _ _ w _ n_bel HSN.out (Blks.range n_own n_mem n_rd)).mono ?_); rintro e wk ⟨rfl, hb⟩; replace HM := n_call hb; clear hb)) | ((with_reducible refine id_box (d := some 4) ?_); (refine n_bx (x := .tmp 1) ?_; clear HM; intro b4 wq HM)) | ((with_reducible refine id_box (d := some 5) ?_); (refine n_bx (x := .tmp 2) ?_; clear HM; intro b5 wq HM)) | ((with_reducible refine id_box (d := some 2) ?_); (refine n_bx (x := .tmp 0) ?_; clear HM; intro b6 wq HM)) | (go_at_call 82; ((with_reducible refine (HSO.out _ n_bel).mono ?_); rintro e wo ⟨rfl, hb⟩; replace HM := n_call hb; clear hb)) | (go_at_call 82; ((with_reducible refine (HSN.out _ n_bel).mono ?_); rintro e wn ⟨rfl, hb⟩; replace HM := n_call hb; clear hb)) | ((with_reducible refine id_load ?_); refine n_ld ?_) | ((with_reducible refine id_load ?_); refine n_ld1 ?_))
    have k0 := n_cell (b := b4) (o := 0); have k1 := n_cell (b := b4) (o := 1); have k2 := n_cell (b := b4) (o := 2); have k3 := n_cell (b := b4) (o := 3); have k4 := n_cell (b := b4) (o := 4); have k5 := n_cell (b := b4) (o := 5)
    go_wp2_with (first | (go_at_call 83; ((refine (clo_any b5 _ _ _ _ _ _ _ _ _ _ _ _ w _ n_bel HSN.out (Blks.range n_own n_mem n_rd)).mono ?_); rintro e wk ⟨rfl, hb⟩; replace HM := n_call hb; clear hb)) | ((with_reducible refine id_box (d := some 4) ?_); (refine n_bx (x := .tmp 1) ?_; clear HM; intro b4 wq HM)) | ((with_reducible refine id_box (d := some 5) ?_); (refine n_bx (x := .tmp 2) ?_; clear HM; intro b5 wq HM)) | ((with_reducible refine id_box (d := some 2) ?_); (refine n_bx (x := .tmp 0) ?_; clear HM; intro b6 wq HM)) | (go_at_call 82; ((with_reducible refine (HSO.out _ n_bel).mono ?_); rintro e wo ⟨rfl, hb⟩; replace HM := n_call hb; clear hb)) | (go_at_call 82; ((with_reducible refine (HSN.out _ n_bel).mono ?_); rintro e wn ⟨rfl, hb⟩; replace HM := n_call hb; clear hb)) | ((with_reducible refine id_load ?_); refine n_ld ?_) | ((with_reducible refine id_load ?_); refine n_ld1 ?_))
    go_ret2
    exact ⟨by first | rfl | simp [hc0], HM.out.bel⟩
set_option maxRecDepth 20000 in
set_option maxHeartbeats 8000000 in
theorem vsg_tg (u v : SV) (cu cv : Int) (Au Av : Option Addr) (nu nv qu qv : Nat) (w : World)
    (hso : ∀ W, Below w.heap.size w W → Calls Tryz.prog 82 #[.agg #[.int .u64 v.major, .int .u64 v.minor, .int .u64 v.patch, .int .i64 cv, .slice Av nv qv, .string v.mt], .agg #[.int .u64 u.major, .int .u64 u.minor, .int .u64 u.patch, .int .i64 cu, .slice Au nu qu, .string u.mt]] W fun e w' => e = .returned (.int .i64 (cmpV v u)) ∧ Below W.heap.size W w')
    (hsn : ∀ (x : SV) (hx : x.pre = ⟨#[]⟩ ∧ x.mt = ⟨#[]⟩) W, Below w.heap.size w W → Calls Tryz.prog 82 #[.agg #[.int .u64 v.major, .int .u64 v.minor, .int .u64 v.patch, .int .i64 cv, .slice Av nv qv, .string v.mt], .agg #[.int .u64 x.major, .int .u64 x.minor, .int .u64 x.patch, .int .i64 0, .slice none 0 0, .string ⟨#[]⟩]] W fun e w' => e = .returned (.int .i64 (cmpV v x)) ∧ Below W.heap.size W w') :
    Calls Tryz.prog 40 #[.string ⟨#[126, 62]⟩, .agg #[.int .u64 u.major, .int .u64 u.minor, .int .u64 u.patch, .int .i64 cu, .slice Au nu qu, .string u.mt], .agg #[.int .u64 v.major, .int .u64 v.minor, .int .u64 v.patch, .int .i64 cv, .slice Av nv qv, .string v.mt]] w (VsEnd (signD [126, 62] u v) w) := by
  have HSO := Lib.hid hso
  have HSN := Lib.hid hsn
  have HM := Aside0.mk (Blks.start w)
  clear hso hsn
  have hs : signD [126, 62] u v = some (decide (0 ≤ cmpV v u) && decide (cmpV v (afterV u 2) < 0)) := by simp [signD]
  rw [hs]
  generalize hc : cmpV v u = c at HSO ⊢
  clear hc
  obtain ⟨ua, ub, uc, up, um, uo⟩ := u
  have ha : afterV ⟨ua, ub, uc, up, um, uo⟩ 2 = ⟨ua, u64w (ub + 1), 0, ⟨#[]⟩, ⟨#[]⟩, ⟨#[]⟩⟩ := rfl
  rw [ha]
  have hw : IntKind.u64.wrap (ub + 1) = u64w (ub + 1) := rfl
  generalize u64w (ub + 1) = z at hw ⊢
  cases hc0 : decide (0 ≤ c) with
  | true =>
    have HSN2 := Lib.hid (HSN.out ⟨ua, z, 0, ⟨#[]⟩, ⟨#[]⟩, ⟨#[]⟩⟩ ⟨rfl, rfl⟩)
    generalize cmpV v ⟨ua, z, 0, ⟨#[]⟩, ⟨#[]⟩, ⟨#[]⟩⟩ = y at HSN2 ⊢
    clear HSN
    have HSN := HSN2
    clear HSN2
    obtain ⟨va, vb, vc, vp, vm, vo⟩ := v
    dsimp only at HSO HSN ⊢
    go_enter Tryz.func40, Tryz.ntmps40
    go_upto_region 3 with (first | (go_at_call 83; ((refine (clo_any b5 _ _ _ _ _ _ _ _ _ _ _ _ w _ n_bel HSN.out (Blks.range n_own n_mem n_rd)).mono ?_); rintro e wk ⟨rfl, hb⟩; replace HM := n_call hb; clear hb)) | ((with_reducible refine id_box (d := some 4) ?_); (refine n_bx (x := .tmp 1) ?_; clear HM; intro b4 wq HM)) | ((with_reducible refine id_box (d := some 5) ?_); (refine n_bx (x := .tmp 2) ?_; clear HM; intro b5 wq HM)) | ((with_reducible refine id_box (d := some 2) ?_); (refine n_bx (x := .tmp 0) ?_; clear HM; intro b6 wq HM)) | (go_at_call 82; ((with_reducible refine (HSO.out _ n_bel).mono ?_); rintro e wo ⟨rfl, hb⟩; replace HM := n_call hb; clear hb)) | (go_at_call 82; ((with_reducible refine (HSN.out _ n_bel).mono ?_); rintro e wn ⟨rfl, hb⟩; replace HM := n_call hb; clear hb)) | ((with_reducible refine id_load ?_); refine n_ld ?_) | ((with_reducible refine id_load ?_); refine n_ld1 ?_))
    have k0 := n_cell (b := b4) (o := 0); have k1 := n_cell (b := b4) (o := 1); have k2 := n_cell (b := b4) (o := 2); have k3 := n_cell (b := b4) (o := 3); have k4 := n_cell (b := b4) (o := 4); have k5 := n_cell (b := b4) (o := 5)
    go_wp2_with (first | (go_at_call 83; ((refine (clo_any b5 _ _ _ _ _ _ _ _ _ _ _ _ w _ n_bel HSN.out (Blks.range n_own n_mem n_rd)).mono ?_); rintro e wk ⟨rfl, hb⟩; replace HM := n_call hb; clear hb)) | ((with_reducible refine id_box (d := some 4) ?_); (refine n_bx (x := .tmp 1) ?_; clear HM; intro b4 wq HM)) | ((with_reducible refine id_box (d := some 5) ?_); (refine n_bx (x := .tmp 2) ?_; clear HM; intro b5 wq HM)) | ((with_reducible refine id_box (d := some 2) ?_); (refine n_bx (x := .tmp 0) ?_; clear HM; intro b6 wq HM)) | (go_at_call 82; ((with_reducible refine (HSO.out _ n_bel).mono ?_); rintro e wo ⟨rfl, hb⟩; replace HM := n_call hb; clear hb)) | (go_at_call 82; ((with_reducible refine (HSN.out _ n_bel).mono ?_); rintro e wn ⟨rfl, hb⟩; replace HM := n_call hb; clear hb)) | ((with_reducible refine id_load ?_); refine n_ld ?_) | ((with_reducible refine id_load ?_); refine n_ld1 ?_))
    go_ret2
    exact ⟨by first | rfl | simp [hc0], HM.out.bel⟩
  | false =>
    have HSN2 := Lib.hid (HSN.out ⟨ua, z, 0, ⟨#[]⟩, ⟨#[]⟩, ⟨#[]⟩⟩ ⟨rfl, rfl⟩)
    generalize cmpV v ⟨ua, z, 0, ⟨#[]⟩, ⟨#[]⟩, ⟨#[]⟩⟩ = y at HSN2 ⊢
    clear HSN
    have HSN := HSN2
    clear HSN2
    obtain ⟨va, vb, vc, vp, vm, vo⟩ := v
    dsimp only at HSO HSN ⊢
    go_enter Tryz.func40, Tryz.ntmps40
    go_upto_region 3 with (first | (go_at_call 83; ((refine (clo_any b5 _ _ _ _ _ _ _ _ _ _ _ _ w _ n_bel HSN.out (Blks.range n_own n_mem n_rd)).mono ?_); rintro e wk ⟨rfl, hb⟩; replace HM := n_call hb; clear hb)) | ((with_reducible refine id_box (d := some 4) ?_); (refine n_bx (x := .tmp 1) ?_; clear HM; intro b4 wq HM)) | ((with_reducible refine id_box (d := some 5) ?_); (refine n_bx (x := .tmp 2) ?_; clear HM; intro b5 wq HM)) | ((with_reducible refine id_box (d := some 2) ?_); (refine n_bx (x := .tmp 0) ?_; clear HM; intro b6 wq HM)) | (go_at_call 82; ((with_reducible refine (HSO.out _ n_bel).mono ?_); rintro e wo ⟨rfl, hb⟩; replace HM := n_call hb; clear hb)) | (go_at_call 82; ((with_reducible refine (HSN.out _ n_bel).mono ?_); rintro e wn ⟨rfl, hb⟩; replace HM := n_call hb; clear hb)) | ((with_reducible refine id_load ?_); refine n_ld ?_) | ((with_reducible refine id_load ?_); refine n_ld1 ?_))
    have k0 := n_cell (b := b4) (o := 0); have k1 := n_cell (b := b4) (o := 1); have k2 := n_cell (b := b4) (o := 2); have k3 := n_cell (b := b4) (o := 3); have k4 := n_cell (b := b4) (o := 4); have k5 := n_cell (b := b4) (o := 5)
    go_wp2_with (first | (go_at_call 83; ((refine (clo_any b5 _ _ _ _ _ _ _ _ _ _ _ _ w _ n_bel HSN.out (Blks.range n_own n_mem n_rd)).mono ?_); rintro e wk ⟨rfl, hb⟩; replace HM := n_call hb; clear hb)) | ((with_reducible refine id_box (d := some 4) ?_); (refine n_bx (x := .tmp 1) ?_; clear HM; intro b4 wq HM)) | ((with_reducible refine id_box (d := some 5) ?_); (refine n_bx (x := .tmp 2) ?_; clear HM; intro b5 wq HM)) | ((with_reducible refine id_box (d := some 2) ?_); (refine n_bx (x := .tmp 0) ?_; clear HM; intro b6 wq HM)) | (go_at_call 82; ((with_reducible refine (HSO.out _ n_bel).mono ?_); rintro e wo ⟨rfl, hb⟩; replace HM := n_call hb; clear hb)) | (go_at_call 82; ((with_reducible refine (HSN.out _ n_bel).mono ?_); rintro e wn ⟨rfl, hb⟩; replace HM := n_call hb; clear hb)) | ((with_reducible refine id_load ?_); refine n_ld ?_) | ((with_reducible refine id_load ?_); refine n_ld1 ?_))
    go_ret2
    exact ⟨by first | rfl | simp [hc0], HM.out.bel⟩
set_option maxRecDepth 20000 in
set_option maxHeartbeats 8000000 in
theorem vsg_ca (u v : SV) (cu cv : Int) (Au Av : Option Addr) (nu nv qu qv : Nat) (w : World)
    (hso : ∀ W, Below w.heap.size w W → Calls Tryz.prog 82 #[.agg #[.int .u64 v.major, .int .u64 v.minor, .int .u64 v.patch, .int .i64 cv, .slice Av nv qv, .string v.mt], .agg #[.int .u64 u.major, .int .u64 u.minor, .int .u64 u.patch, .int .i64 cu, .slice Au nu qu, .string u.mt]] W fun e w' => e = .returned (.int .i64 (cmpV v u)) ∧ Below W.heap.size W w')
    (hsn : ∀ (x : SV) (hx : x.pre = ⟨#[]⟩ ∧ x.mt = ⟨#[]⟩) W, Below w.heap.size w W → Calls Tryz.prog 82 #[.agg #[.int .u64 v.major, .int .u64 v.minor, .int .u64 v.patch, .int .i64 cv, .slice Av nv qv, .string v.mt], .agg #[.int .u64 x.major, .int .u64 x.minor, .int .u64 x.patch, .int .i64 0, .slice none 0 0, .string ⟨#[]⟩]] W fun e w' => e = .returned (.int .i64 (cmpV v x)) ∧ Below W.heap.size W w') (hnn : 0 ≤ u.major ∧ 0 ≤ u.minor) :
    Calls Tryz.prog 40 #[.string ⟨#[94]⟩, .agg #[.int .u64 u.major, .int .u64 u.minor, .int .u64 u.patch, .int .i64 cu, .slice Au nu qu, .string u.mt], .agg #[.int .u64 v.major, .int .u64 v.minor, .int .u64 v.patch, .int .i64 cv, .slice Av nv qv, .string v.mt]] w (VsEnd (signD [94] u v) w) := by
  have HSO := Lib.hid hso
  have HSN := Lib.hid hsn
  have HM := Aside0.mk (Blks.start w)
  clear hso hsn
  have hs : signD [94] u v = some (decide (0 ≤ cmpV v u) && decide (cmpV v (afterV u (caretN u 3)) < 0)) := by simp [signD]
  rw [hs]
  generalize hc : cmpV v u = c at HSO ⊢
  clear hc
  obtain ⟨ua, ub, uc, up, um, uo⟩ := u
  dsimp only at hnn
  by_cases h0 : ua = 0
  · by_cases h1 : ub = 0
    · subst h0 h1
      have ha : afterV ⟨0, 0, uc, up, um, uo⟩ (caretN ⟨0, 0, uc, up, um, uo⟩ 3) = ⟨0, 0, u64w (uc + 1), ⟨#[]⟩, ⟨#[]⟩, ⟨#[]⟩⟩ := by rfl
      rw [ha]
      have hw : IntKind.u64.wrap (uc + 1) = u64w (uc + 1) := rfl
      generalize u64w (uc + 1) = z at hw ⊢
      clear ha
      cases hc0 : decide (0 ≤ c) with
      | true =>
        have HSN2 := Lib.hid (HSN.out ⟨0, 0, z, ⟨#[]⟩, ⟨#[]⟩, ⟨#[]⟩⟩ ⟨rfl, rfl⟩)
        generalize cmpV v ⟨0, 0, z, ⟨#[]⟩, ⟨#[]⟩, ⟨#[]⟩⟩ = y at HSN2 ⊢
        clear HSN
        have HSN := HSN2
        clear HSN2
        obtain ⟨va, vb, vc, vp, vm, vo⟩ := v
        dsimp only at HSO HSN ⊢
        go_enter Tryz.func40, Tryz.ntmps40
        go_upto_region 3 with (first | (go_at_call 83; ((refine (clo_any b5 _ _ _ _ _ _ _ _ _ _ _ _ w _ n_bel HSN.out (Blks.range n_own n_mem n_rd)).mono ?_); rintro e wk ⟨rfl, hb⟩; replace HM := n_call hb; clear hb)) | ((with_reducible refine id_box (d := some 4) ?_); (refine n_bx (x := .tmp 1) ?_; clear HM; intro b4 wq HM)) | ((with_reducible refine id_box (d := some 5) ?_); (refine n_bx (x := .tmp 2) ?_; clear HM; intro b5 wq HM)) | ((with_reducible refine id_box (d := some 2) ?_); (refine n_bx (x := .tmp 0) ?_; clear HM; intro b6 wq HM)) | (go_at_call 82; ((with_reducible refine (HSO.out _ n_bel).mono ?_); rintro e wo ⟨rfl, hb⟩; replace HM := n_call hb; clear hb)) | (go_at_call 82; ((with_reducible refine (HSN.out _ n_bel).mono ?_); rintro e wn ⟨rfl, hb⟩; replace HM := n_call hb; clear hb)) | ((with_reducible refine id_load ?_); refine n_ld ?_) | ((with_reducible refine id_load ?_); refine n_ld1 ?_))
        have k0 := n_cell (b := b4) (o := 0); have k1 := n_cell (b := b4) (o := 1); have k2 := n_cell (b := b4) (o := 2); have k3 := n_cell (b := b4) (o := 3); have k4 := n_cell (b := b4) (o := 4); have k5 := n_cell (b := b4) (o := 5)
        go_wp2_with (first | (go_at_call 83; ((refine (clo_any b5 _ _ _ _ _ _ _ _ _ _ _ _ w _ n_bel HSN.out (Blks.range n_own n_mem n_rd)).mono ?_); rintro e wk ⟨rfl, hb⟩; replace HM := n_call hb; clear hb)) | ((with_reducible refine id_box (d := some 4) ?_); (refine n_bx (x := .tmp 1) ?_; clear HM; intro b4 wq HM)) | ((with_reducible refine id_box (d := some 5) ?_); (refine n_bx (x := .tmp 2) ?_; clear HM; intro b5 wq HM)) | ((with_reducible refine id_box (d := some 2) ?_); (refine n_bx (x := .tmp 0) ?_; clear HM; intro b6 wq HM)) | (go_at_call 82; ((with_reducible refine (HSO.out _ n_bel).mono ?_); rintro e wo ⟨rfl, hb⟩; replace HM := n_call hb; clear hb)) | (go_at_call 82; ((with_reducible refine (HSN.out _ n_bel).mono ?_); rintro e wn ⟨rfl, hb⟩; replace HM := n_call hb; clear hb)) | ((with_reducible refine id_load ?_); refine n_ld ?_) | ((with_reducible refine id_load ?_); refine n_ld1 ?_))
        go_ret2
        exact ⟨by first | rfl | simp [hc0], HM.out.bel⟩
      | false =>
        have HSN2 := Lib.hid (HSN.out ⟨0, 0, z, ⟨#[]⟩, ⟨#[]⟩, ⟨#[]⟩⟩ ⟨rfl, rfl⟩)
        generalize cmpV v ⟨0, 0, z, ⟨#[]⟩, ⟨#[]⟩, ⟨#[]⟩⟩ = y at HSN2 ⊢
        clear HSN
        have HSN := HSN2
        clear HSN2
        obtain ⟨va, vb, vc, vp, vm, vo⟩ := v
        dsimp only at HSO HSN ⊢
        go_enter Tryz.func40, Tryz.ntmps40
        go_upto_region 3 with (first | (go_at_call 83; ((refine (clo_any b5 _ _ _ _ _ _ _ _ _ _ _ _ w _ n_bel HSN.out (Blks.range n_own n_mem n_rd)).mono ?_); rintro e wk ⟨rfl, hb⟩; replace HM := n_call hb; clear hb)) | ((with_reducible refine id_box (d := some 4) ?_); (refine n_bx (x := .tmp 1) ?_; clear HM; intro b4 wq HM)) | ((with_reducible refine id_box (d := some 5) ?_); (refine n_bx (x := .tmp 2) ?_; clear HM; intro b5 wq HM)) | ((with_reducible refine id_box (d := some 2) ?_); (refine n_bx (x := .tmp 0) ?_; clear HM; intro b6 wq HM)) | (go_at_call 82; ((with_reducible refine (HSO.out _ n_bel).mono ?_); rintro e wo ⟨rfl, hb⟩; replace HM := n_call hb; clear hb)) | (go_at_call 82; ((with_reducible refine (HSN.out _ n_bel).mono ?_); rintro e wn ⟨rfl, hb⟩; replace HM := n_call hb; clear hb)) | ((with_reducible refine id_load ?_); refine n_ld ?_) | ((with_reducible refine id_load ?_); refine n_ld1 ?_))
        have k0 := n_cell (b := b4) (o := 0); have k1 := n_cell (b := b4) (o := 1); have k2 := n_cell (b := b4) (o := 2); have k3 := n_cell (b := b4) (o := 3); have k4 := n_cell (b := b4) (o := 4); have k5 := n_cell (b := b4) (o := 5)
        go_wp2_with (first | (go_at_call 83; ((refine (clo_any b5 _ _ _ _ _ _ _ _ _ _ _ _ w _ n_bel HSN.out (Blks.range n_own n_mem n_rd)).mono ?_); rintro e wk ⟨rfl, hb⟩; replace HM := n_call hb; clear hb)) | ((with_reducible refine id_box (d := some 4) ?_); (refine n_bx (x := .tmp 1) ?_; clear HM; intro b4 wq HM)) | ((with_reducible refine id_box (d := some 5) ?_); (refine n_bx (x := .tmp 2) ?_; clear HM; intro b5 wq HM)) | ((with_reducible refine id_box (d := some 2) ?_); (refine n_bx (x := .tmp 0) ?_; clear HM; intro b6 wq HM)) | (go_at_call 82; ((with_reducible refine (HSO.out _ n_bel).mono ?_); rintro e wo ⟨rfl, hb⟩; replace HM := n_call hb; clear hb)) | (go_at_call 82; ((with_reducible refine (HSN.out _ n_bel).mono ?_); rintro e wn ⟨rfl, hb⟩; replace HM := n_call hb; clear hb)) | ((with_reducible refine id_load ?_); refine n_ld ?_) | ((with_reducible refine id_load ?_); refine n_ld1 ?_))
        go_ret2
        exact ⟨by first | rfl | simp [hc0], HM.out.bel⟩
    · subst h0
      have ha : afterV ⟨0, ub, uc, up, um, uo⟩ (caretN ⟨0, ub, uc, up, um, uo⟩ 3) = ⟨0, u64w (ub + 1), 0, ⟨#[]⟩, ⟨#[]⟩, ⟨#[]⟩⟩ := by unfold caretN; rw [if_pos (by simp), if_neg (by simp [h1])]; rfl
      rw [ha]
      have hw : IntKind.u64.wrap (ub + 1) = u64w (ub + 1) := rfl
      generalize u64w (ub + 1) = z at hw ⊢
      have m1 : decide (0 < ub) = true := decide_eq_true (by have := hnn.2; omega)
      clear ha
      cases hc0 : decide (0 ≤ c) with
      | true =>
        have HSN2 := Lib.hid (HSN.out ⟨0, z, 0, ⟨#[]⟩, ⟨#[]⟩, ⟨#[]⟩⟩ ⟨rfl, rfl⟩)
        generalize cmpV v ⟨0, z, 0, ⟨#[]⟩, ⟨#[]⟩, ⟨#[]⟩⟩ = y at HSN2 ⊢
        clear HSN
        have HSN := HSN2
        clear HSN2
        obtain ⟨va, vb, vc, vp, vm, vo⟩ := v
        dsimp only at HSO HSN ⊢
        go_enter Tryz.func40, Tryz.ntmps40
        go_upto_region 3 with (first | (go_at_call 83; ((refine (clo_any b5 _ _ _ _ _ _ _ _ _ _ _ _ w _ n_bel HSN.out (Blks.range n_own n_mem n_rd)).mono ?_); rintro e wk ⟨rfl, hb⟩; replace HM := n_call hb; clear hb)) | ((with_reducible refine id_box (d := some 4) ?_); (refine n_bx (x := .tmp 1) ?_; clear HM; intro b4 wq HM)) | ((with_reducible refine id_box (d := some 5) ?_); (refine n_bx (x := .tmp 2) ?_; clear HM; intro b5 wq HM)) | ((with_reducible refine id_box (d := some 2) ?_); (refine n_bx (x := .tmp 0) ?_; clear HM; intro b6 wq HM)) | (go_at_call 82; ((with_reducible refine (HSO.out _ n_bel).mono ?_); rintro e wo ⟨rfl, hb⟩; replace HM := n_call hb; clear hb)) | (go_at_call 82; ((with_reducible refine (HSN.out _ n_bel).mono ?_); rintro e wn ⟨rfl, hb⟩; replace HM := n_call hb; clear hb)) | ((with_reducible refine id_load ?_); refine n_ld ?_) | ((with_reducible refine id_load ?_); refine n_ld1 ?_))
        have k0 := n_cell (b := b4) (o := 0); have k1 := n_cell (b := b4) (o := 1); have k2 := n_cell (b := b4) (o := 2); have k3 := n_cell (b := b4) (o := 3); have k4 := n_cell (b := b4) (o := 4); have k5 := n_cell (b := b4) (o := 5)
        go_wp2_with (first | (go_at_call 83; ((refine (clo_any b5 _ _ _ _ _ _ _ _ _ _ _ _ w _ n_bel HSN.out (Blks.range n_own n_mem n_rd)).mono ?_); rintro e wk ⟨rfl, hb⟩; replace HM := n_call hb; clear hb)) | ((with_reducible refine id_box (d := some 4) ?_); (refine n_bx (x := .tmp 1) ?_; clear HM; intro b4 wq HM)) | ((with_reducible refine id_box (d := some 5) ?_); (refine n_bx (x := .tmp 2) ?_; clear HM; intro b5 wq HM)) | ((with_reducible refine id_box (d := some 2) ?_); (refine n_bx (x := .tmp 0) ?_; clear HM; intro b6 wq HM)) | (go_at_call 82; ((with_reducible refine (HSO.out _ n_bel).mono ?_); rintro e wo ⟨rfl, hb⟩; replace HM := n_call hb; clear hb)) | (go_at_call 82; ((with_reducible refine (HSN.out _ n_bel).mono ?_); rintro e wn ⟨rfl, hb⟩; replace HM := n_call hb; clear hb)) | ((with_reducible refine id_load ?_); refine n_ld ?_) | ((with_reducible refine id_load ?_); refine n_ld1 ?_))
        go_ret2
        exact ⟨by first | rfl | simp [hc0], HM.out.bel⟩
      | false =>
        have HSN2 := Lib.hid (HSN.out ⟨0, z, 0, ⟨#[]⟩, ⟨#[]⟩, ⟨#[]⟩⟩ ⟨rfl, rfl⟩)
        generalize cmpV v ⟨0, z, 0, ⟨#[]⟩, ⟨#[]⟩, ⟨#[]⟩⟩ = y at HSN2 ⊢
        clear HSN
        have HSN := HSN2
        clear HSN2
        obtain ⟨va, vb, vc, vp, vm, vo⟩ := v
        dsimp only at HSO HSN ⊢
        go_enter Tryz.func40, Tryz.ntmps40
        go_upto_region 3 with (first | (go_at_call 83; ((refine (clo_any b5 _ _ _ _ _ _ _ _ _ _ _ _ w _ n_bel HSN.out (Blks.range n_own n_mem n_rd)).mono ?_); rintro e wk ⟨rfl, hb⟩; replace HM := n_call hb; clear hb)) | ((with_reducible refine id_box (d := some 4) ?_); (refine n_bx (x := .tmp 1) ?_; clear HM; intro b4 wq HM)) | ((with_reducible refine id_box (d := some 5) ?_); (refine n_bx (x := .tmp 2) ?_; clear HM; intro b5 wq HM)) | ((with_reducible refine id_box (d := some 2) ?_); (refine n_bx (x := .tmp 0) ?_; clear HM; intro b6 wq HM)) | (go_at_call 82; ((with_reducible refine (HSO.out _ n_bel).mono ?_); rintro e wo ⟨rfl, hb⟩; replace HM := n_call hb; clear hb)) | (go_at_call 82; ((with_reducible refine (HSN.out _ n_bel).mono ?_); rintro e wn ⟨rfl, hb⟩; replace HM := n_call hb; clear hb)) | ((with_reducible refine id_load ?_); refine n_ld ?_) | ((with_reducible refine id_load ?_); refine n_ld1 ?_))
        have k0 := n_cell (b := b4) (o := 0); have k1 := n_cell (b := b4) (o := 1); have k2 := n_cell (b := b4) (o := 2); have k3 := n_cell (b := b4) (o := 3); have k4 := n_cell (b := b4) (o := 4); have k5 := n_cell (b := b4) (o := 5)
        go_wp2_with (first | (go_at_call 83; ((refine (clo_any b5 _ _ _ _ _ _ _ _ _ _ _ _ w _ n_bel HSN.out (Blks.range n_own n_mem n_rd)).mono ?_); rintro e wk ⟨rfl, hb⟩; replace HM := n_call hb; clear hb)) | ((with_reducible refine id_box (d := some 4) ?_); (refine n_bx (x := .tmp 1) ?_; clear HM; intro b4 wq HM)) | ((with_reducible refine id_box (d := some 5) ?_); (refine n_bx (x := .tmp 2) ?_; clear HM; intro b5 wq HM)) | ((with_reducible refine id_box (d := some 2) ?_); (refine n_bx (x := .tmp 0) ?_; clear HM; intro b6 wq HM)) | (go_at_call 82; ((with_reducible refine (HSO.out _ n_bel).mono ?_); rintro e wo ⟨rfl, hb⟩; replace HM := n_call hb; clear hb)) | (go_at_call 82; ((with_reducible refine (HSN.out _ n_bel).mono ?_); rintro e wn ⟨rfl, hb⟩; replace HM := n_call hb; clear hb)) | ((with_reducible refine id_load ?_); refine n_ld ?_) | ((with_reducible refine id_load ?_); refine n_ld1 ?_))
        go_ret2
        exact ⟨by first | rfl | simp [hc0], HM.out.bel⟩
  · have ha : afterV ⟨ua, ub, uc, up, um, uo⟩ (caretN ⟨ua, ub, uc, up, um, uo⟩ 3) = ⟨u64w (ua + 1), 0, 0, ⟨#[]⟩, ⟨#[]⟩, ⟨#[]⟩⟩ := by unfold caretN; rw [if_neg (by simp [h0])]; rfl
    rw [ha]
    have hw : IntKind.u64.wrap (ua + 1) = u64w (ua + 1) := rfl
    generalize u64w (ua + 1) = z at hw ⊢
    have m0 : decide (0 < ua) = true := decide_eq_true (by have := hnn.1; omega)
    clear ha
    cases hc0 : decide (0 ≤ c) with
    | true =>
      have HSN2 := Lib.hid (HSN.out ⟨z, 0, 0, ⟨#[]⟩, ⟨#[]⟩, ⟨#[]⟩⟩ ⟨rfl, rfl⟩)
      generalize cmpV v ⟨z, 0, 0, ⟨#[]⟩, ⟨#[]⟩, ⟨#[]⟩⟩ = y at HSN2 ⊢
      clear HSN
      have HSN := HSN2
      clear HSN2
      obtain ⟨va, vb, vc, vp, vm, vo⟩ := v
      dsimp only at HSO HSN ⊢
      go_enter Tryz.func40, Tryz.ntmps40
      go_upto_region 3 with (first | (go_at_call 83; ((refine (clo_any b5 _ _ _ _ _ _ _ _ _ _ _ _ w _ n_bel HSN.out (Blks.range n_own n_mem n_rd)).mono ?_); rintro e wk ⟨rfl, hb⟩; replace HM := n_call hb; clear hb)) | ((with_reducible refine id_box (d := some 4) ?_); (refine n_bx (x := .tmp 1) ?_; clear HM; intro b4 wq HM)) | ((with_reducible refine id_box (d := some 5) ?_); (refine n_bx (x := .tmp 2) ?_; clear HM; intro b5 wq HM)) | ((with_reducible refine id_box (d := some 2) ?_); (refine n_bx (x := .tmp 0) ?_; clear HM; intro b6 wq HM)) | (go_at_call 82; ((with_reducible refine (HSO.out _ n_bel).mono ?_); rintro e wo ⟨rfl, hb⟩; replace HM := n_call hb; clear hb)) | (go_at_call 82; ((with_reducible refine (HSN.out _ n_bel).mono ?_); rintro e wn ⟨rfl, hb⟩; replace HM := n_call hb; clear hb)) | ((with_reducible refine id_load ?_); refine n_ld ?_) | ((with_reducible refine id_load ?_); refine n_ld1 ?_))
      have k0 := n_cell (b := b4) (o := 0); have k1 := n_cell (b := b4) (o := 1); have k2 := n_cell (b := b4) (o := 2); have k3 := n_cell (b := b4) (o := 3); have k4 := n_cell (b := b4) (o := 4); have k5 := n_cell (b := b4) (o := 5)
      go_wp2_with (first | (go_at_call 83; ((refine (clo_any b5 _ _ _ _ _ _ _ _ _ _ _ _ w _ n_bel HSN.out (Blks.range n_own n_mem n_rd)).mono ?_); rintro e wk ⟨rfl, hb⟩; replace HM := n_call hb; clear hb)) | ((with_reducible refine id_box (d := some 4) ?_); (refine n_bx (x := .tmp 1) ?_; clear HM; intro b4 wq HM)) | ((with_reducible refine id_box (d := some 5) ?_); (refine n_bx (x := .tmp 2) ?_; clear HM; intro b5 wq HM)) | ((with_reducible refine id_box (d := some 2) ?_); (refine n_bx (x := .tmp 0) ?_; clear HM; intro b6 wq HM)) | (go_at_call 82; ((with_reducible refine (HSO.out _ n_bel).mono ?_); rintro e wo ⟨rfl, hb⟩; replace HM := n_call hb; clear hb)) | (go_at_call 82; ((with_reducible refine (HSN.out _ n_bel).mono ?_); rintro e wn ⟨rfl, hb⟩; replace HM := n_call hb; clear hb)) | ((with_reducible refine id_load ?_); refine n_ld ?_) | ((with_reducible refine id_load ?_); refine n_ld1 ?_))
      go_ret2
      exact ⟨by first | rfl | simp [hc0], HM.out.bel⟩
    | false =>
      have HSN2 := Lib.hid (HSN.out ⟨z, 0, 0, ⟨#[]⟩, ⟨#[]⟩, ⟨#[]⟩⟩ ⟨rfl, rfl⟩)
      generalize cmpV v ⟨z, 0, 0, ⟨#[]⟩, ⟨#[]⟩, ⟨#[]⟩⟩ = y at HSN2 ⊢
      clear HSN
      have HSN := HSN2
      clear HSN2
      obtain ⟨va, vb, vc, vp, vm, vo⟩ := v
      dsimp only at HSO HSN ⊢
      go_enter Tryz.func40, Tryz.ntmps40
      go_upto_region 3 with (first | (go_at_call 83; ((refine (clo_any b5 _ _ _ _ _ _ _ _ _ _ _ _ w _ n_bel HSN.out (Blks.range n_own n_mem n_rd)).mono ?_); rintro e wk ⟨rfl, hb⟩; replace HM := n_call hb; clear hb)) | ((with_reducible refine id_box (d := some 4) ?_); (refine n_bx (x := .tmp 1) ?_; clear HM; intro b4 wq HM)) | ((with_reducible refine id_box (d := some 5) ?_); (refine n_bx (x := .tmp 2) ?_; clear HM; intro b5 wq HM)) | ((with_reducible refine id_box (d := some 2) ?_); (refine n_bx (x := .tmp 0) ?_; clear HM; intro b6 wq HM)) | (go_at_call 82; ((with_reducible refine (HSO.out _ n_bel).mono ?_); rintro e wo ⟨rfl, hb⟩; replace HM := n_call hb; clear hb)) | (go_at_call 82; ((with_reducible refine (HSN.out _ n_bel).mono ?_); rintro e wn ⟨rfl, hb⟩; replace HM := n_call hb; clear hb)) | ((with_reducible refine id_load ?_); refine n_ld ?_) | ((with_reducible refine id_load ?_); refine n_ld1 ?_))
      have k0 := n_cell (b := b4) (o := 0); have k1 := n_cell (b := b4) (o := 1); have k2 := n_cell (b := b4) (o := 2); have k3 := n_cell (b := b4) (o := 3); have k4 := n_cell (b := b4) (o := 4); have k5 := n_cell (b := b4) (o := 5)
      go_wp2_with (first | (go_at_call 83; ((refine (clo_any b5 _ _ _ _ _ _ _ _ _ _ _ _ w _ n_bel HSN.out (Blks.range n_own n_mem n_rd)).mono ?_); rintro e wk ⟨rfl, hb⟩; replace HM := n_call hb; clear hb)) | ((with_reducible refine id_box (d := some 4) ?_); (refine n_bx (x := .tmp 1) ?_; clear HM; intro b4 wq HM)) | ((with_reducible refine id_box (d := some 5) ?_); (refine n_bx (x := .tmp 2) ?_; clear HM; intro b5 wq HM)) | ((with_reducible refine id_box (d := some 2) ?_); (refine n_bx (x := .tmp 0) ?_; clear HM; intro b6 wq HM)) | (go_at_call 82; ((with_reducible refine (HSO.out _ n_bel).mono ?_); rintro e wo ⟨rfl, hb⟩; replace HM := n_call hb; clear hb)) | (go_at_call 82; ((with_reducible refine (HSN.out _ n_bel).mono ?_); rintro e wn ⟨rfl, hb⟩; replace HM := n_call hb; clear hb)) | ((with_reducible refine id_load ?_); refine n_ld ?_) | ((with_reducible refine id_load ?_); refine n_ld1 ?_))
      go_ret2
      exact ⟨by first | rfl | simp [hc0], HM.out.bel⟩
set_option maxRecDepth 20000 in
set_option maxHeartbeats 8000000 in
theorem vsg_other (op : ByteArray) (o0 : op.toList ≠ ([61] : List UInt8)) (o1 : op.toList ≠ ([33, 61] : List UInt8)) (o2 : op.toList ≠ ([62] : List UInt8)) (o3 : op.toList ≠ ([62, 61] : List UInt8)) (o4 : op.toList ≠ ([61, 62] : List UInt8)) (o5 : op.toList ≠ ([60] : List UInt8)) (o6 : op.toList ≠ ([60, 61] : List UInt8)) (o7 : op.toList ≠ ([61, 60] : List UInt8)) (o8 : op.toList ≠ ([126] : List UInt8)) (o9 : op.toList ≠ ([126, 62] : List UInt8)) (o10 : op.toList ≠ ([94] : List UInt8)) (oe : op.toList ≠ []) (u v : SV) (cu cv : Int) (Au Av : Option Addr) (nu nv qu qv : Nat) (w : World)
    (hso : ∀ W, Below w.heap.size w W → Calls Tryz.prog 82 #[.agg #[.int .u64 v.major, .int .u64 v.minor, .int .u64 v.patch, .int .i64 cv, .slice Av nv qv, .string v.mt], .agg #[.int .u64 u.major, .int .u64 u.minor, .int .u64 u.patch, .int .i64 cu, .slice Au nu qu, .string u.mt]] W fun e w' => e = .returned (.int .i64 (cmpV v u)) ∧ Below W.heap.size W w')
    (hsn : ∀ (x : SV) (hx : x.pre = ⟨#[]⟩ ∧ x.mt = ⟨#[]⟩) W, Below w.heap.size w W → Calls Tryz.prog 82 #[.agg #[.int .u64 v.major, .int .u64 v.minor, .int .u64 v.patch, .int .i64 cv, .slice Av nv qv, .string v.mt], .agg #[.int .u64 x.major, .int .u64 x.minor, .int .u64 x.patch, .int .i64 0, .slice none 0 0, .string ⟨#[]⟩]] W fun e w' => e = .returned (.int .i64 (cmpV v x)) ∧ Below W.heap.size W w') :
    Calls Tryz.prog 40 #[.string op, .agg #[.int .u64 u.major, .int .u64 u.minor, .int .u64 u.patch, .int .i64 cu, .slice Au nu qu, .string u.mt], .agg #[.int .u64 v.major, .int .u64 v.minor, .int .u64 v.patch, .int .i64 cv, .slice Av nv qv, .string v.mt]] w (VsEnd none w) := by
  have HSO := Lib.hid hso
  have HSN := Lib.hid hsn
  have HM := Aside0.mk (Blks.start w)
  have q0 : (op.toList == ([61] : List UInt8)) = false := beq_eq_false_iff_ne.2 o0
  have q1 : (op.toList == ([33, 61] : List UInt8)) = false := beq_eq_false_iff_ne.2 o1
  have q2 : (op.toList == ([62] : List UInt8)) = false := beq_eq_false_iff_ne.2 o2
  have q3 : (op.toList == ([62, 61] : List UInt8)) = false := beq_eq_false_iff_ne.2 o3
  have q4 : (op.toList == ([61, 62] : List UInt8)) = false := beq_eq_false_iff_ne.2 o4
  have q5 : (op.toList == ([60] : List UInt8)) = false := beq_eq_false_iff_ne.2 o5
  have q6 : (op.toList == ([60, 61] : List UInt8)) = false := beq_eq_false_iff_ne.2 o6
  have q7 : (op.toList == ([61, 60] : List UInt8)) = false := beq_eq_false_iff_ne.2 o7
  have q8 : (op.toList == ([126] : List UInt8)) = false := beq_eq_false_iff_ne.2 o8
  have q9 : (op.toList == ([126, 62] : List UInt8)) = false := beq_eq_false_iff_ne.2 o9
  have q10 : (op.toList == ([94] : List UInt8)) = false := beq_eq_false_iff_ne.2 o10
  have qe : op.toList.isEmpty = false := by cases h : op.toList with
    | nil => exact absurd h oe
    | cons => rfl
  clear o0 o1 o2 o3 o4 o5 o6 o7 o8 o9 o10 oe
  clear hso hsn
  generalize cmpV v u = c at HSO ⊢
  obtain ⟨ua, ub, uc, up, um, uo⟩ := u
  obtain ⟨va, vb, vc, vp, vm, vo⟩ := v
  dsimp only at HSO HSN ⊢
  go_enter Tryz.func40, Tryz.ntmps40
  go_wp2_with (first | (go_at_call 83; ((refine (clo_any b5 _ _ _ _ _ _ _ _ _ _ _ _ w _ n_bel HSN.out (Blks.range n_own n_mem n_rd)).mono ?_); rintro e wk ⟨rfl, hb⟩; replace HM := n_call hb; clear hb)) | ((with_reducible refine id_box (d := some 4) ?_); (refine n_bx (x := .tmp 1) ?_; clear HM; intro b4 wq HM)) | ((with_reducible refine id_box (d := some 5) ?_); (refine n_bx (x := .tmp 2) ?_; clear HM; intro b5 wq HM)) | ((with_reducible refine id_box (d := some 2) ?_); (refine n_bx (x := .tmp 0) ?_; clear HM; intro b6 wq HM)) | (go_at_call 82; ((with_reducible refine (HSO.out _ n_bel).mono ?_); rintro e wo ⟨rfl, hb⟩; replace HM := n_call hb; clear hb)) | (go_at_call 82; ((with_reducible refine (HSN.out _ n_bel).mono ?_); rintro e wn ⟨rfl, hb⟩; replace HM := n_call hb; clear hb)) | ((with_reducible refine id_load ?_); refine n_ld ?_) | ((with_reducible refine id_load ?_); refine n_ld1 ?_))
  go_ret2
  exact ⟨rfl, HM.out.bel⟩
theorem lit_of {s : ByteArray} {l : List UInt8} (h : s.data.toList = l) : s = ⟨l.toArray⟩ := by apply ByteArray.ext; apply Array.ext'; rw [h]
theorem vsgn_any (sign : ByteArray) (u v : SV) (cu cv : Int) (Au Av : Option Addr) (nu nv qu qv : Nat) (w : World)
    (hso : ∀ W, Below w.heap.size w W → Calls Tryz.prog 82 #[.agg #[.int .u64 v.major, .int .u64 v.minor, .int .u64 v.patch, .int .i64 cv, .slice Av nv qv, .string v.mt], .agg #[.int .u64 u.major, .int .u64 u.minor, .int .u64 u.patch, .int .i64 cu, .slice Au nu qu, .string u.mt]] W fun e w' => e = .returned (.int .i64 (cmpV v u)) ∧ Below W.heap.size W w')
    (hsn : ∀ (x : SV) (hx : x.pre = ⟨#[]⟩ ∧ x.mt = ⟨#[]⟩) W, Below w.heap.size w W → Calls Tryz.prog 82 #[.agg #[.int .u64 v.major, .int .u64 v.minor, .int .u64 v.patch, .int .i64 cv, .slice Av nv qv, .string v.mt], .agg #[.int .u64 x.major, .int .u64 x.minor, .int .u64 x.patch, .int .i64 0, .slice none 0 0, .string ⟨#[]⟩]] W fun e w' => e = .returned (.int .i64 (cmpV v x)) ∧ Below W.heap.size W w') (hnn : 0 ≤ u.major ∧ 0 ≤ u.minor) : Calls Tryz.prog 40 #[.string sign, .agg #[.int .u64 u.major, .int .u64 u.minor, .int .u64 u.patch, .int .i64 cu, .slice Au nu qu, .string u.mt], .agg #[.int .u64 v.major, .int .u64 v.minor, .int .u64 v.patch, .int .i64 cv, .slice Av nv qv, .string v.mt]] w (VsEnd (signD sign.data.toList u v) w) := by
  by_cases k0 : sign.data.toList = []
  · rw [lit_of k0]
    exact vsg_none u v cu cv Au Av nu nv qu qv w hso hsn
  by_cases k1 : sign.data.toList = [61]
  · rw [lit_of k1]
    exact vsg_eq u v cu cv Au Av nu nv qu qv w hso hsn
  by_cases k2 : sign.data.toList = [33, 61]
  · rw [lit_of k2]
    exact vsg_ne u v cu cv Au Av nu nv qu qv w hso hsn
  by_cases k3 : sign.data.toList = [62]
  · rw [lit_of k3]
    exact vsg_gt u v cu cv Au Av nu nv qu qv w hso hsn
  by_cases k4 : sign.data.toList = [62, 61]
  · rw [lit_of k4]
    exact vsg_ge u v cu cv Au Av nu nv qu qv w hso hsn
  by_cases k5 : sign.data.toList = [61, 62]
  · rw [lit_of k5]
    exact vsg_eg u v cu cv Au Av nu nv qu qv w hso hsn
  by_cases k6 : sign.data.toList = [60]
  · rw [lit_of k6]
    exact vsg_lt u v cu cv Au Av nu nv qu qv w hso hsn
  by_cases k7 : sign.data.toList = [60, 61]
  · rw [lit_of k7]
    exact vsg_le u v cu cv Au Av nu nv qu qv w hso hsn
  by_cases k8 : sign.data.toList = [61, 60]
  · rw [lit_of k8]
    exact vsg_el u v cu cv Au Av nu nv qu qv w hso hsn
  by_cases k9 : sign.data.toList = [126]
  · rw [lit_of k9]
    exact vsg_ti u v cu cv Au Av nu nv qu qv w hso hsn
  by_cases k10 : sign.data.toList = [126, 62]
  · rw [lit_of k10]
    exact vsg_tg u v cu cv Au Av nu nv qu qv w hso hsn
  by_cases k11 : sign.data.toList = [94]
  · rw [lit_of k11]
    exact vsg_ca u v cu cv Au Av nu nv qu qv w hso hsn hnn
  have hn : signD sign.data.toList u v = none := by simp [signD, k0, k1, k2, k3, k4, k5, k6, k7, k8, k9, k10, k11]
  rw [hn]
  have tl : ∀ {l : List UInt8}, sign.data.toList ≠ l → sign.toList ≠ l := fun h => by rw [ByteArray.toList_eq]; exact h
  exact vsg_other sign (tl k1) (tl k2) (tl k3) (tl k4) (tl k5) (tl k6) (tl k7) (tl k8) (tl k9) (tl k10) (tl k11) (tl k0) u v cu cv Au Av nu nv qu qv w hso hsn
end Go.Proofs.YtgoeiflddikihaaGreatDoor.Ver
end
