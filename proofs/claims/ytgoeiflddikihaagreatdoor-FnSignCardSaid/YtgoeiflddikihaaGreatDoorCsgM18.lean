/- Merged by program out of: AwakeC, AwakeD, RgV. -/
import Derived.Test.YtgoeiflddikihaaGreatDoorCsgM3
import Derived.Test.YtgoeiflddikihaaGreatDoorCsgM16
import Derived.Test.YtgoeiflddikihaaGreatDoorCsgM14
import Derived.Test.YtgoeiflddikihaaGreatDoorCsgM12
import Derived.RegionTactic
import Derived.BigRegion
import Derived.WalkLawsBesides
import Derived.Test.YtgoeiflddikihaaGreatDoorCsgM13
import Derived.Laws.OwnMore
import Derived.Laws.Tables
import Derived.Laws.CopyOwn
import Derived.Deep.MidRow
import Derived.Test.YtgoeiflddikihaaGreatDoorCsgM2
import Derived.Test.YtgoeiflddikihaaGreatDoorCsgM6
import Derived.Test.YtgoeiflddikihaaGreatDoorCsgM7
import Derived.Lib.QuietBelow
import Derived.BigQuiet
import Derived.Test.YtgoeiflddikihaaGreatDoorCsgM15
section
namespace Go.Proofs.YtgoeiflddikihaaGreatDoor.Ver
set_option linter.unusedSimpArgs false
open Go.RowKit Go.Proofs.YtgoeiflddikihaaGreatDoor.Dig Go.Proofs.YtgoeiflddikihaaGreatDoorW.PrintWords Go.Proofs.YtgoeiflddikihaaGreatDoor.Mem
theorem rowR : RowT Tryz.prog 238 1 := ⟨⟨_, Tryz.underlying238, rfl⟩, by kernel_rfl⟩
theorem oneS : OneT Tryz.prog 9 := ⟨⟨_, Tryz.underlying9, rfl⟩, by kernel_rfl⟩
theorem oneSl : OneT Tryz.prog 236 := ⟨⟨_, Tryz.underlying236, rfl⟩, by kernel_rfl⟩
abbrev v2 : SV := ⟨2, 0, 0, ⟨#[]⟩, ⟨#[]⟩, ⟨#[]⟩⟩
end Go.Proofs.YtgoeiflddikihaaGreatDoor.Ver
end
section
namespace Go.Proofs.YtgoeiflddikihaaGreatDoor.Ver
set_option linter.unusedSimpArgs false
open Go.Sort (grow)
open Go.RowKit Go.Proofs.YtgoeiflddikihaaGreatDoor.Dig Go.Proofs.YtgoeiflddikihaaGreatDoorW.PrintWords Go.Proofs.YtgoeiflddikihaaGreatDoor.Mem
theorem rowC : RowT Tryz.prog 29 6 := ⟨⟨_, Tryz.underlying29, rfl⟩, by kernel_rfl⟩
theorem rowIV : RowT Tryz.prog 27 3 := ⟨⟨_, Tryz.underlying27, rfl⟩, by kernel_rfl⟩
theorem oneI : OneT Tryz.prog 2 := ⟨⟨_, Tryz.underlying2, rfl⟩, by kernel_rfl⟩
theorem n_sc_Matches (v : Value) (w : World) : (nilAhead 417 202 v "Matches").run Tryz.prog w = .ok (some false) w := by kernel_rfl
end Go.Proofs.YtgoeiflddikihaaGreatDoor.Ver
end
section
namespace Go.Proofs.YtgoeiflddikihaaGreatDoor.Ver
set_option linter.unusedSimpArgs false
set_option linter.unusedVariables false
open Go.RowKit Go.Proofs.YtgoeiflddikihaaGreatDoorW.PrintWords Go.Proofs.YtgoeiflddikihaaGreatDoor.Mem Go.Proofs.YtgoeiflddikihaaGreatDoor.Ord
def isectV (u : SV) (c : CnD) : CnD := if c.matches u then .ver u else .rng []
def CnEnd (c : CnD) (w : World) (e : Ending) (w' : World) : Prop := (∃ x, e = .returned x ∧ CnAt w' w.heap.size c x) ∧ Below w.heap.size w w'
set_option maxRecDepth 20000 in
set_option maxHeartbeats 8000000 in
theorem vi_any (u : SV) (hu : SVok u) (c : CnD) (hc : c.ok) (x : Value) (w : World) (hx : CnAt w 0 c x) : Calls Tryz.prog 231 #[.agg u.cells, x] w (CnEnd (isectV u c) w) := by
  have HM := Aside0.mk (Blks.start w)
  have f1 := m_sv_Matches
  have f2 := m_range_Matches
  unfold isectV
  cases c with
  | ver v =>
    obtain rfl := hx
    have HC := Lib.hid (fun W => vm_any v u hc hu W)
    show Calls _ _ _ _ (CnEnd (if (cmpV v u == 0) = true then _ else _) w)
    clear hc hu
    generalize (cmpV v u == 0) = b at *
    dsimp only [SV.cells] at HC ⊢
    unfold MatchEnd at HC
    go_enter Tryz.func231, Tryz.ntmps231
    cases b with
    | true =>
      go_wp2_with (first | ((with_reducible refine id_box ?_); (refine n_bx (x := .tmp 0) ?_; clear HM; intro b2 wq HM)) | (go_at_call 232; ((with_reducible refine (HC.out _ ).mono ?_); rintro e wc ⟨rfl, hb⟩; replace HM := n_call hb; clear hb)) | ((with_reducible refine id_load ?_); refine n_ld ?_))
      go_ret
      exact ⟨⟨_, rfl, rfl⟩, HM.out.bel⟩
    | false =>
      go_wp2_with (first | ((with_reducible refine id_box ?_); (refine n_bx (x := .tmp 0) ?_; clear HM; intro b2 wq HM)) | (go_at_call 232; ((with_reducible refine (HC.out _ ).mono ?_); rintro e wc ⟨⟨ae, rfl⟩, hb⟩; replace HM := n_call hb; clear hb)) | ((with_reducible refine id_load ?_); refine n_ld ?_) | ((with_reducible refine id_build ?_); (refine m_build (by kernel_rfl) (h := ?_))))
      go_ret
      exact ⟨⟨_, rfl, ⟨_, rfl, RngAt.nil _ _⟩⟩, HM.out.bel⟩
  | rng l =>
    obtain ⟨rv, rfl, hr⟩ := hx
    have HRG := Lib.hid hr
    have HC := Lib.hid (fun W (h : RngAt W 0 rv l) => rm_any l hc u hu rv W h)
    show Calls _ _ _ _ (CnEnd (if rngD l u = true then _ else _) w)
    clear hc hu hr
    generalize rngD l u = b at *
    dsimp only [SV.cells] at HC ⊢
    unfold MatchEnd at HC
    go_enter Tryz.func231, Tryz.ntmps231
    cases b with
    | true =>
      go_wp2_with (first | ((with_reducible refine id_box ?_); (refine n_bx (x := .tmp 0) ?_; clear HM; intro b2 wq HM)) | (go_at_call 296; ((with_reducible refine (HC.out _ (RngAt.below HRG.out n_bel)).mono ?_); rintro e wc ⟨rfl, hb⟩; replace HM := n_call hb; clear hb)) | ((with_reducible refine id_load ?_); refine n_ld ?_))
      go_ret
      exact ⟨⟨_, rfl, rfl⟩, HM.out.bel⟩
    | false =>
      go_wp2_with (first | ((with_reducible refine id_box ?_); (refine n_bx (x := .tmp 0) ?_; clear HM; intro b2 wq HM)) | (go_at_call 296; ((with_reducible refine (HC.out _ (RngAt.below HRG.out n_bel)).mono ?_); rintro e wc ⟨⟨ae, rfl⟩, hb⟩; replace HM := n_call hb; clear hb)) | ((with_reducible refine id_load ?_); refine n_ld ?_) | ((with_reducible refine id_build ?_); (refine m_build (by kernel_rfl) (h := ?_))))
      go_ret
      exact ⟨⟨_, rfl, ⟨_, rfl, RngAt.nil _ _⟩⟩, HM.out.bel⟩
end Go.Proofs.YtgoeiflddikihaaGreatDoor.Ver
end
