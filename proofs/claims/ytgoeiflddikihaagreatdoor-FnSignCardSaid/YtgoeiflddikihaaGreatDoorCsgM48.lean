/- Merged by program out of: ConM. -/
import Derived.Test.YtgoeiflddikihaaGreatDoorCsgM3
import Derived.Test.YtgoeiflddikihaaGreatDoorCsgM47
import Derived.Test.YtgoeiflddikihaaGreatDoorCsgM18
section
namespace Go.Proofs.YtgoeiflddikihaaGreatDoor.Ver
set_option linter.unusedSimpArgs false
set_option linter.unusedVariables false
open Go.Sort (grow)
open Go.RowKit Go.Proofs.YtgoeiflddikihaaGreatDoor.Dig Go.Proofs.YtgoeiflddikihaaGreatDoorW.PrintWords Go.Proofs.YtgoeiflddikihaaGreatDoor.Ord Go.Proofs.YtgoeiflddikihaaGreatDoor.Mem
def GcAt (w : World) (base : Nat) (c : CnD) (x : Value) : Prop := match c with
  | .ver u => x = .iface 200 (.agg u.cells)
  | .rng l => ∃ rv, x = .iface 202 (.agg #[.iface 238 (.agg #[rv])]) ∧ RngAt w base rv l
def matchesV (c : CnD) (v : Vers) : Bool := match v with
  | .un (.sem s) => c.matches s
  | .pair (.sem s) _ => (match c with
    | .ver u => cmpV s u == 0
    | .rng l => rngD l s)
  | _ => false
instance cmI1 : RowC Tryz.prog 200 6 := ⟨⟨_, Tryz.underlying200, rfl⟩, by kernel_rfl⟩
instance cmI2 : RowC Tryz.prog 212 2 := ⟨⟨_, Tryz.underlying212, rfl⟩, by kernel_rfl⟩
instance cmI3 : RowC Tryz.prog 202 1 := ⟨⟨_, Tryz.underlying202, rfl⟩, by kernel_rfl⟩
instance cmI4 : OneC Tryz.prog 138 := ⟨⟨_, Tryz.underlying138, rfl⟩, by kernel_rfl⟩
instance cmI5 : OneC Tryz.prog 193 := ⟨⟨_, Tryz.underlying193, rfl⟩, by kernel_rfl⟩
instance cmI6 : ZeroC Tryz.prog 200 zSV := ⟨by kernel_rfl⟩
instance cmI7 : ZeroC Tryz.prog 212 #[.nilIface, .string ⟨#[]⟩] := ⟨by kernel_rfl⟩
instance cmI8 : RowC Tryz.prog 29 6 := ⟨⟨_, Tryz.underlying29, rfl⟩, by kernel_rfl⟩
instance cmI9 : RowC Tryz.prog 27 3 := ⟨⟨_, Tryz.underlying27, rfl⟩, by kernel_rfl⟩
instance cmI10 : OneC Tryz.prog 2 := ⟨⟨_, Tryz.underlying2, rfl⟩, by kernel_rfl⟩
set_option maxRecDepth 20000 in
set_option maxHeartbeats 16000000 in
theorem sem_m (u : SV) (hu : SVok u) (v : Vers) (hv : v.ok) (w : World) : Calls Tryz.prog 239 #[.agg u.cells, v.val] w fun e w' => e = .returned (.bool (matchesV (.ver u) v)) ∧ Below w.heap.size w w' := by
  have HM := Aside0.mk (Blks.start w)
  have f0 := c_rev_sem
  have f1 := c_rev_pair
  have f2 := c_branch_sem
  have f3 := c_branch_pair
  have f4 := c_plain_sem
  have f5 := c_plain_pair
  have f6 := c_sem_sem
  have f7 := c_pair_sem
  have f8 := c_pair_pair
  have HU := Lib.hid hu
  have HV := Lib.hid hv
  clear hu hv
  cases v with
  | rev s =>
    obtain ⟨ua, ub, uc, up, um, uo⟩ := u
    dsimp only [SV.cells, Vers.val, Vers.tid, Vers.inner]
    go_enter Tryz.func239, Tryz.ntmps239
    go_wp2_with (first | ((with_reducible refine id_box ?_); (refine n_bx (x := .tmp 0) ?_; clear HM; intro b2 wq HM)) | ((with_reducible refine id_alloc ?_); (refine n_al ?_; clear HM; intro b5 wq HM)) | ((with_reducible refine id_store ?_); (refine n_st ?_; clear HM; intro wq HM)) | ((with_reducible refine id_load ?_); refine n_ld1 ?_) | ((with_reducible refine id_load ?_); refine n_ld ?_))
    go_ret
    exact ⟨rfl, HM.out.bel⟩
  | un x =>
    cases x with
    | sem s =>
      have HE := Lib.hid (fun W => equal_any u s HU.out.pre HV.out.1.pre W)
      show Calls _ _ _ _ fun e w' => e = .returned (.bool (cmpV u s == 0)) ∧ _
      clear HU HV
      generalize (cmpV u s == 0) = b at HE ⊢
      obtain ⟨ua, ub, uc, up, um, uo⟩ := u
      obtain ⟨sa, sb, sc, sp, sm, so⟩ := s
      dsimp only [SV.cells, Vers.val, Vers.tid, Vers.inner, Unp.tid, Unp.inner, Unp.val] at HE ⊢
      go_enter Tryz.func239, Tryz.ntmps239
      go_wp2_with (first | ((with_reducible refine id_box ?_); (refine n_bx (x := .tmp 0) ?_; clear HM; intro b2 wq HM)) | ((with_reducible refine id_alloc ?_); (refine n_al ?_; clear HM; intro b5 wq HM)) | (go_at_call 234; ((with_reducible refine (HE.out _).mono ?_); rintro e wc ⟨rfl, hb⟩; replace HM := n_call hb; clear hb)) | ((with_reducible refine id_store ?_); (refine n_st ?_; clear HM; intro wq HM)) | ((with_reducible refine id_load ?_); refine n_ld1 ?_) | ((with_reducible refine id_load ?_); refine n_ld ?_))
      go_ret
      exact ⟨rfl, HM.out.bel⟩
    | branch n d =>
      obtain ⟨ua, ub, uc, up, um, uo⟩ := u
      dsimp only [SV.cells, Vers.val, Vers.tid, Vers.inner, Unp.tid, Unp.inner, Unp.val]
      go_enter Tryz.func239, Tryz.ntmps239
      go_wp2_with (first | ((with_reducible refine id_box ?_); (refine n_bx (x := .tmp 0) ?_; clear HM; intro b2 wq HM)) | ((with_reducible refine id_alloc ?_); (refine n_al ?_; clear HM; intro b5 wq HM)) | ((with_reducible refine id_store ?_); (refine n_st ?_; clear HM; intro wq HM)) | ((with_reducible refine id_load ?_); refine n_ld1 ?_) | ((with_reducible refine id_load ?_); refine n_ld ?_))
      go_ret
      exact ⟨rfl, HM.out.bel⟩
    | plain n =>
      obtain ⟨ua, ub, uc, up, um, uo⟩ := u
      dsimp only [SV.cells, Vers.val, Vers.tid, Vers.inner, Unp.tid, Unp.inner, Unp.val]
      go_enter Tryz.func239, Tryz.ntmps239
      go_wp2_with (first | ((with_reducible refine id_box ?_); (refine n_bx (x := .tmp 0) ?_; clear HM; intro b2 wq HM)) | ((with_reducible refine id_alloc ?_); (refine n_al ?_; clear HM; intro b5 wq HM)) | ((with_reducible refine id_store ?_); (refine n_st ?_; clear HM; intro wq HM)) | ((with_reducible refine id_load ?_); refine n_ld1 ?_) | ((with_reducible refine id_load ?_); refine n_ld ?_))
      go_ret
      exact ⟨rfl, HM.out.bel⟩
  | pair x r =>
    cases x with
    | sem s =>
      have HE := Lib.hid (fun W => equal_any s u HV.out.1.1.pre HU.out.pre W)
      show Calls _ _ _ _ fun e w' => e = .returned (.bool (cmpV s u == 0)) ∧ _
      clear HU HV
      generalize (cmpV s u == 0) = b at HE ⊢
      obtain ⟨ua, ub, uc, up, um, uo⟩ := u
      obtain ⟨sa, sb, sc, sp, sm, so⟩ := s
      dsimp only [SV.cells, Vers.val, Vers.tid, Vers.inner, Unp.tid, Unp.inner, Unp.val] at HE ⊢
      go_enter Tryz.func239, Tryz.ntmps239
      go_wp2_with (first | ((with_reducible refine id_box ?_); (refine n_bx (x := .tmp 0) ?_; clear HM; intro b2 wq HM)) | ((with_reducible refine id_alloc ?_); (refine n_al ?_; clear HM; intro b5 wq HM)) | (go_at_call 234; ((with_reducible refine (HE.out _).mono ?_); rintro e wc ⟨rfl, hb⟩; replace HM := n_call hb; clear hb)) | ((with_reducible refine id_store ?_); (refine n_st ?_; clear HM; intro wq HM)) | ((with_reducible refine id_load ?_); refine n_ld1 ?_) | ((with_reducible refine id_load ?_); refine n_ld ?_))
      go_ret
      exact ⟨rfl, HM.out.bel⟩
    | branch n d =>
      obtain ⟨ua, ub, uc, up, um, uo⟩ := u
      dsimp only [SV.cells, Vers.val, Vers.tid, Vers.inner, Unp.tid, Unp.inner, Unp.val]
      go_enter Tryz.func239, Tryz.ntmps239
      go_wp2_with (first | ((with_reducible refine id_box ?_); (refine n_bx (x := .tmp 0) ?_; clear HM; intro b2 wq HM)) | ((with_reducible refine id_alloc ?_); (refine n_al ?_; clear HM; intro b5 wq HM)) | ((with_reducible refine id_store ?_); (refine n_st ?_; clear HM; intro wq HM)) | ((with_reducible refine id_load ?_); refine n_ld1 ?_) | ((with_reducible refine id_load ?_); refine n_ld ?_))
      go_ret
      exact ⟨rfl, HM.out.bel⟩
    | plain n =>
      obtain ⟨ua, ub, uc, up, um, uo⟩ := u
      dsimp only [SV.cells, Vers.val, Vers.tid, Vers.inner, Unp.tid, Unp.inner, Unp.val]
      go_enter Tryz.func239, Tryz.ntmps239
      go_wp2_with (first | ((with_reducible refine id_box ?_); (refine n_bx (x := .tmp 0) ?_; clear HM; intro b2 wq HM)) | ((with_reducible refine id_alloc ?_); (refine n_al ?_; clear HM; intro b5 wq HM)) | ((with_reducible refine id_store ?_); (refine n_st ?_; clear HM; intro wq HM)) | ((with_reducible refine id_load ?_); refine n_ld1 ?_) | ((with_reducible refine id_load ?_); refine n_ld ?_))
      go_ret
      exact ⟨rfl, HM.out.bel⟩
set_option maxRecDepth 20000 in
set_option maxHeartbeats 16000000 in
theorem con_m (l : List PD) (hl : RngOk l) (rv : Value) (v : Vers) (hv : v.ok) (w : World) (hr : RngAt w 0 rv l) : Calls Tryz.prog 251 #[.agg #[.iface 238 (.agg #[rv])], v.val] w fun e w' => e = .returned (.bool (matchesV (.rng l) v)) ∧ Below w.heap.size w w' := by
  have HM := Aside0.mk (Blks.start w)
  have f0 := c_rev_sem
  have f1 := c_rev_pair
  have f2 := c_branch_sem
  have f3 := c_branch_pair
  have f4 := c_plain_sem
  have f5 := c_plain_pair
  have f6 := c_sem_sem
  have f7 := c_pair_sem
  have f8 := c_pair_pair
  have g1 := m_range_Matches
  have HL := Lib.hid hl
  have HV := Lib.hid hv
  have HRG := Lib.hid hr
  clear hl hv hr
  cases v with
  | rev s =>
    dsimp only [Vers.val, Vers.tid, Vers.inner]
    go_enter Tryz.func251, Tryz.ntmps251
    go_wp2_with (first | ((with_reducible refine id_box ?_); (refine n_bx (x := .tmp 0) ?_; clear HM; intro b2 wq HM)) | ((with_reducible refine id_alloc ?_); (refine n_al ?_; clear HM; intro b5 wq HM)) | ((with_reducible refine id_store ?_); (refine n_st ?_; clear HM; intro wq HM)) | ((with_reducible refine id_load ?_); refine n_ld1 ?_) | ((with_reducible refine id_load ?_); refine n_ld ?_))
    go_ret
    exact ⟨rfl, HM.out.bel⟩
  | un x =>
    cases x with
    | sem s =>
      have HR := Lib.hid (fun W (h : RngAt W 0 rv l) => rm_any l HL.out s HV.out.1 rv W h)
      show Calls _ _ _ _ fun e w' => e = .returned (.bool (rngD l s)) ∧ _
      unfold MatchEnd at HR
      generalize rngD l s = b at HR ⊢
      obtain ⟨sa, sb, sc, sp, sm, so⟩ := s
      dsimp only [SV.cells, Vers.val, Vers.tid, Vers.inner, Unp.tid, Unp.inner, Unp.val] at HR ⊢
      cases b with
      | true =>
        go_enter Tryz.func251, Tryz.ntmps251
        go_wp2_with (first | ((with_reducible refine id_box ?_); (refine n_bx (x := .tmp 0) ?_; clear HM; intro b2 wq HM)) | ((with_reducible refine id_alloc ?_); (refine n_al ?_; clear HM; intro b5 wq HM)) | (go_at_call 296; ((with_reducible refine (HR.out _ (RngAt.below HRG.out n_bel)).mono ?_); rintro e wc ⟨rfl, hb⟩; replace HM := n_call hb; clear hb)) | ((with_reducible refine id_store ?_); (refine n_st ?_; clear HM; intro wq HM)) | ((with_reducible refine id_load ?_); refine n_ld1 ?_) | ((with_reducible refine id_load ?_); refine n_ld ?_))
        go_ret
        exact ⟨rfl, HM.out.bel⟩
      | false =>
        go_enter Tryz.func251, Tryz.ntmps251
        go_wp2_with (first | ((with_reducible refine id_box ?_); (refine n_bx (x := .tmp 0) ?_; clear HM; intro b2 wq HM)) | ((with_reducible refine id_alloc ?_); (refine n_al ?_; clear HM; intro b5 wq HM)) | (go_at_call 296; ((with_reducible refine (HR.out _ (RngAt.below HRG.out n_bel)).mono ?_); rintro e wc ⟨⟨ae, rfl⟩, hb⟩; replace HM := n_call hb; clear hb)) | ((with_reducible refine id_store ?_); (refine n_st ?_; clear HM; intro wq HM)) | ((with_reducible refine id_load ?_); refine n_ld1 ?_) | ((with_reducible refine id_load ?_); refine n_ld ?_))
        go_ret
        exact ⟨rfl, HM.out.bel⟩
    | branch n d =>
      dsimp only [Vers.val, Vers.tid, Vers.inner, Unp.tid, Unp.inner, Unp.val]
      go_enter Tryz.func251, Tryz.ntmps251
      go_wp2_with (first | ((with_reducible refine id_box ?_); (refine n_bx (x := .tmp 0) ?_; clear HM; intro b2 wq HM)) | ((with_reducible refine id_alloc ?_); (refine n_al ?_; clear HM; intro b5 wq HM)) | ((with_reducible refine id_store ?_); (refine n_st ?_; clear HM; intro wq HM)) | ((with_reducible refine id_load ?_); refine n_ld1 ?_) | ((with_reducible refine id_load ?_); refine n_ld ?_))
      go_ret
      exact ⟨rfl, HM.out.bel⟩
    | plain n =>
      dsimp only [Vers.val, Vers.tid, Vers.inner, Unp.tid, Unp.inner, Unp.val]
      go_enter Tryz.func251, Tryz.ntmps251
      go_wp2_with (first | ((with_reducible refine id_box ?_); (refine n_bx (x := .tmp 0) ?_; clear HM; intro b2 wq HM)) | ((with_reducible refine id_alloc ?_); (refine n_al ?_; clear HM; intro b5 wq HM)) | ((with_reducible refine id_store ?_); (refine n_st ?_; clear HM; intro wq HM)) | ((with_reducible refine id_load ?_); refine n_ld1 ?_) | ((with_reducible refine id_load ?_); refine n_ld ?_))
      go_ret
      exact ⟨rfl, HM.out.bel⟩
  | pair x r =>
    cases x with
    | sem s =>
      have HR := Lib.hid (fun W (h : RngAt W 0 rv l) => rm_any l HL.out s HV.out.1.1 rv W h)
      show Calls _ _ _ _ fun e w' => e = .returned (.bool (rngD l s)) ∧ _
      unfold MatchEnd at HR
      generalize rngD l s = b at HR ⊢
      obtain ⟨sa, sb, sc, sp, sm, so⟩ := s
      dsimp only [SV.cells, Vers.val, Vers.tid, Vers.inner, Unp.tid, Unp.inner, Unp.val] at HR ⊢
      cases b with
      | true =>
        go_enter Tryz.func251, Tryz.ntmps251
        go_wp2_with (first | ((with_reducible refine id_box ?_); (refine n_bx (x := .tmp 0) ?_; clear HM; intro b2 wq HM)) | ((with_reducible refine id_alloc ?_); (refine n_al ?_; clear HM; intro b5 wq HM)) | (go_at_call 296; ((with_reducible refine (HR.out _ (RngAt.below HRG.out n_bel)).mono ?_); rintro e wc ⟨rfl, hb⟩; replace HM := n_call hb; clear hb)) | ((with_reducible refine id_store ?_); (refine n_st ?_; clear HM; intro wq HM)) | ((with_reducible refine id_load ?_); refine n_ld1 ?_) | ((with_reducible refine id_load ?_); refine n_ld ?_))
        go_ret
        exact ⟨rfl, HM.out.bel⟩
      | false =>
        go_enter Tryz.func251, Tryz.ntmps251
        go_wp2_with (first | ((with_reducible refine id_box ?_); (refine n_bx (x := .tmp 0) ?_; clear HM; intro b2 wq HM)) | ((with_reducible refine id_alloc ?_); (refine n_al ?_; clear HM; intro b5 wq HM)) | (go_at_call 296; ((with_reducible refine (HR.out _ (RngAt.below HRG.out n_bel)).mono ?_); rintro e wc ⟨⟨ae, rfl⟩, hb⟩; replace HM := n_call hb; clear hb)) | ((with_reducible refine id_store ?_); (refine n_st ?_; clear HM; intro wq HM)) | ((with_reducible refine id_load ?_); refine n_ld1 ?_) | ((with_reducible refine id_load ?_); refine n_ld ?_))
        go_ret
        exact ⟨rfl, HM.out.bel⟩
    | branch n d =>
      dsimp only [Vers.val, Vers.tid, Vers.inner, Unp.tid, Unp.inner, Unp.val]
      go_enter Tryz.func251, Tryz.ntmps251
      go_wp2_with (first | ((with_reducible refine id_box ?_); (refine n_bx (x := .tmp 0) ?_; clear HM; intro b2 wq HM)) | ((with_reducible refine id_alloc ?_); (refine n_al ?_; clear HM; intro b5 wq HM)) | ((with_reducible refine id_store ?_); (refine n_st ?_; clear HM; intro wq HM)) | ((with_reducible refine id_load ?_); refine n_ld1 ?_) | ((with_reducible refine id_load ?_); refine n_ld ?_))
      go_ret
      exact ⟨rfl, HM.out.bel⟩
    | plain n =>
      dsimp only [Vers.val, Vers.tid, Vers.inner, Unp.tid, Unp.inner, Unp.val]
      go_enter Tryz.func251, Tryz.ntmps251
      go_wp2_with (first | ((with_reducible refine id_box ?_); (refine n_bx (x := .tmp 0) ?_; clear HM; intro b2 wq HM)) | ((with_reducible refine id_alloc ?_); (refine n_al ?_; clear HM; intro b5 wq HM)) | ((with_reducible refine id_store ?_); (refine n_st ?_; clear HM; intro wq HM)) | ((with_reducible refine id_load ?_); refine n_ld1 ?_) | ((with_reducible refine id_load ?_); refine n_ld ?_))
      go_ret
      exact ⟨rfl, HM.out.bel⟩
def GcEnd (r : Option CnD) (w : World) (e : Ending) (w' : World) : Prop :=
  (match r with
    | none => ∃ a, e = .returned (.tuple #[.nilIface, .iface 260 (.pointer (some a))])
    | some c => ∃ x, e = .returned (.tuple #[x, .nilIface]) ∧ GcAt w' w.heap.size c x) ∧ Below w.heap.size w w'
set_option maxHeartbeats 4000000 in
theorem nc_any (t : ByteArray) (ht : t.size ≤ 96) (w : World) (hv : Vars w) : Calls Tryz.prog 118 #[.string t] w (R1End (conV t false) w) := by
  have HC0 := Lib.hid (fun W hb => con_any t ht false W (Vars.below (w := w) hv hb))
  have HM := Aside0.mk (Blks.start w)
  clear hv
  generalize conV t false = r at HC0 ⊢
  have HC := HC0
  clear HC0
  unfold R1End at HC
  cases r with
  | none =>
    go_enter Tryz.func118, Tryz.ntmps118
    go_wp2_with (go_at_call 127; ((with_reducible refine (HC.out _ n_bel).mono ?_); rintro e wc ⟨⟨ae, rfl⟩, hb⟩; replace HM := n_call hb; clear hb))
    go_ret2
    exact R1End.bad HM.out.bel
  | some c =>
    go_enter Tryz.func118, Tryz.ntmps118
    go_wp2_with (go_at_call 127; ((with_reducible refine (HC.out _ n_bel).mono ?_); rintro e wc ⟨⟨xc, rfl, hx⟩, hb⟩; have HX := Lib.hid (hx.mono (Blks.bel n_own).size); clear hx; replace HM := n_call hb; clear hb))
    go_ret2
    exact ⟨⟨_, rfl, HX.out⟩, HM.out.bel⟩
set_option maxRecDepth 20000 in
set_option maxHeartbeats 4000000 in
theorem ns_any (t : ByteArray) (ht : t.size ≤ 96) (w : World) (hv : Vars w) : Calls Tryz.prog 95 #[.string t] w (GcEnd (conV t false) w) := by
  have HC0 := Lib.hid (fun W hb => nc_any t ht W (Vars.below (w := w) hv hb))
  have HM := Aside0.mk (Blks.start w)
  have f1 := c_range_sv
  have f2 := c_sv_sv
  clear hv
  generalize conV t false = r at HC0 ⊢
  have HC := HC0
  clear HC0
  unfold R1End at HC
  cases r with
  | none =>
    go_enter Tryz.func95, Tryz.ntmps95
    go_wp2_with (go_at_call 118; ((with_reducible refine (HC.out _ n_bel).mono ?_); rintro e wc ⟨⟨ae, rfl⟩, hb⟩; replace HM := n_call hb; clear hb))
    go_ret2
    exact ⟨⟨_, rfl⟩, HM.out.bel⟩
  | some c =>
    cases c with
    | ver u =>
      obtain ⟨ua, ub, uc, up, um, uo⟩ := u
      unfold CnAt at HC
      dsimp only [SV.cells] at HC
      go_enter Tryz.func95, Tryz.ntmps95
      go_wp2_with (first | (go_at_call 118; ((with_reducible refine (HC.out _ n_bel).mono ?_); rintro e wc ⟨⟨xc, rfl, rfl⟩, hb⟩; replace HM := n_call hb; clear hb)) | ((with_reducible refine id_alloc ?_); (refine n_al ?_; clear HM; intro b6 wq HM)) | ((with_reducible refine id_store ?_); (refine n_st ?_; clear HM; intro wq HM)) | ((with_reducible refine id_load ?_); refine n_ld ?_))
      go_ret2
      exact ⟨⟨_, rfl, rfl⟩, HM.out.bel⟩
    | rng l =>
      unfold CnAt at HC
      go_enter Tryz.func95, Tryz.ntmps95
      go_wp2_with (first | (go_at_call 118; ((with_reducible refine (HC.out _ n_bel).mono ?_); rintro e wc ⟨⟨xc, rfl, ⟨rv, rfl, hx⟩⟩, hb⟩; obtain ⟨Z, hbl, hin⟩ := addRg n_own hb hx; have HX := Lib.hid hin; clear HM hb hx hin; have HM := Aside0.mk hbl; simp only [List.nil_append] at HM; clear hbl)) | ((with_reducible refine id_alloc ?_); (refine n_al ?_; clear HM; intro b6 wq HM)) | ((with_reducible refine id_store ?_); (refine n_st ?_; clear HM; intro wq HM)) | ((with_reducible refine id_load ?_); refine n_ld ?_))
      go_ret2
      exact ⟨⟨_, rfl, ⟨_, rfl, HX.out.at HM.out (fun x hx => List.mem_cons_of_mem _ hx)⟩⟩, HM.out.bel⟩
def IcEnd (c : CnD) (w : World) (e : Ending) (w' : World) : Prop := (∃ x, e = .returned (.tuple #[x, .bool true]) ∧ GcAt w' w.heap.size c x) ∧ Below w.heap.size w w'
set_option maxRecDepth 20000 in
set_option maxHeartbeats 4000000 in
theorem ic_any (t : ByteArray) (ht : t.size ≤ 96) (c : CnD) (hc : conV t false = some c) (vk : Int) (vt vr : ByteArray) (pv : Value) (w : World) (hv : Vars w) : Calls Tryz.prog 65 #[.agg #[.int .i64 2, .string t, .int .i64 vk, .string vt, .string vr, pv]] w (IcEnd c w) := by
  have HC0 := Lib.hid (fun W hb => ns_any t ht W (Vars.below (w := w) hv hb))
  rw [hc] at HC0
  have HM := Aside0.mk (Blks.start w)
  clear hv
  have HC := HC0
  clear HC0 hc
  unfold GcEnd at HC
  cases c with
  | ver u =>
    unfold GcAt at HC
    go_enter Tryz.func65, Tryz.ntmps65
    go_wp2_with (first | (go_at_call 95; ((with_reducible refine (HC.out _ n_bel).mono ?_); rintro e wc ⟨⟨xc, rfl, rfl⟩, hb⟩; replace HM := n_call hb; clear hb)) | ((with_reducible refine id_box ?_); (refine n_bx (x := .tmp 0) ?_; clear HM; intro b1 wq HM)) | ((with_reducible refine id_load ?_); refine n_ld1 ?_))
    go_ret2
    exact ⟨⟨_, rfl, rfl⟩, HM.out.bel⟩
  | rng l =>
    unfold GcAt at HC
    go_enter Tryz.func65, Tryz.ntmps65
    go_wp2_with (first | (go_at_call 95; ((with_reducible refine (HC.out _ n_bel).mono ?_); rintro e wc ⟨⟨xc, rfl, ⟨rv, rfl, hx⟩⟩, hb⟩; obtain ⟨Z, hbl, hin⟩ := addRg n_own hb hx; have HX := Lib.hid hin; clear HM hb hx hin; have HM := Aside0.mk hbl; simp only [List.cons_append, List.nil_append] at HM; clear hbl)) | ((with_reducible refine id_box ?_); (refine n_bx (x := .tmp 0) ?_; clear HM; intro b1 wq HM)) | ((with_reducible refine id_load ?_); refine n_ld1 ?_))
    go_ret2
    exact ⟨⟨_, rfl, ⟨_, rfl, HX.out.at HM.out (fun x hx => List.mem_cons_of_mem _ hx)⟩⟩, HM.out.bel⟩
end Go.Proofs.YtgoeiflddikihaaGreatDoor.Ver
end
