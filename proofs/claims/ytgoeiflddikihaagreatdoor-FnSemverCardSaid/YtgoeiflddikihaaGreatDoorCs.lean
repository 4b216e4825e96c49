/- The row of FnSemver and its card: for every input the call returns true, and each argument reads as it read. No condition. -/
import Derived.Test.YtgoeiflddikihaaGreatDoorCards
import Derived.Test.YtgoeiflddikihaaGreatDoorTie
import Derived.Test.YtgoeiflddikihaaGreatDoorCsM2
import Derived.Test.YtgoeiflddikihaaGreatDoorProg
import Derived.Test.YtgoeiflddikihaaGreatDoorCsM12
import Derived.WalkKit
import Derived.ProofKit
import Derived.OpenShut
import Derived.ShutString
import Derived.ChangeOld
import Derived.Below
import Derived.SizedLaws
import Derived.Deep.DeepHandedRow
import Derived.Lib.LaidTab
namespace Go.Proofs.YtgoeiflddikihaaGreatDoor.fnSemver
open Go.ChangeShapes Go.WideShapes Go.ChangeAt Go.RowKit Go.Proofs.YtgoeiflddikihaaGreatDoorW.PrintWords Go.Proofs.YtgoeiflddikihaaGreatDoor.Opens
open Go.ChangeMaps (open_string shut_string)
set_option linter.unusedVariables false
open HeadRow (own laidOut)
theorem named : Tryz.prog.funcNamed "pub-caravanserai/laws.FnSemver" = some 5 := by kernel_rfl
set_option maxRecDepth 100000 in
theorem contract (H : Type) (enc : TypeId × Value → H) (W : World) (base : Nat) (args : Array Value) (ds gs : List (DataW H)) (before : List MemPlace)
    (hval : ∀ (j : Nat) t v, Tryz.f5.params[j]? = some t → args[j]? = some v → Value.okWide Tryz.prog W .any base t v)
    (hW : DataW.Whole enc Tryz.prog Tryz.f5.params.toList Rows.fnSemverSpec.vars false W args.toList ds gs before)
    (hsz : (DataW.weightsEach Tryz.prog (Tryz.f5.params.toList ++ Rows.fnSemverSpec.plain.varTypes Tryz.prog) (ds ++ gs)).all (· ≤ reachBytes) = true)
    (hL : laidMetH Tryz.prog Rows.fnSemverRow.laid W) :
    Calls Tryz.prog 5 args W fun e W' => ∃ v, e = .returned v ∧ Rows.fnSemverSpec.post enc Tryz.prog Tryz.f5 false true false false W args v W' := by
  have hW' := hW
  obtain ⟨p, q, hA0, hV, rfl, hfz, hnd⟩ := hW
  have hA : DataW.TrodAll enc Tryz.prog W 0 (fun _ => true) true Tryz.f5.params.toList args.toList ds p := hA0
  rw [Tryz.params5] at hA hval hsz
  obtain ⟨v0, vs0, d0, ds0, p0, q0, hargs, rfl, rfl, h0, r0⟩ := trodAll_cons hA
  obtain ⟨rfl, rfl, rfl⟩ := trodAll_nil r0
  obtain rfl : args = #[v0] := by cases args; simp_all
  obtain ⟨rfl, rfl⟩ := trodVars_none hV
  obtain ⟨a0, rfl, rfl, rfl, y0⟩ := open_string Tryz.underlying9 (hval 0 9 v0 rfl rfl) h0
  have w0 : a0.size ≤ 140737488351232 := by
    have z := sized_string hsz (j := 0) (t := 9) rfl rfl
    rw [Array.length_toList] at z
    exact z
  clear hA0 hsz
  refine (Ver.semver_law a0 W w0 (VarsRow.vars_of hL)).mono fun e W' ⟨he, bel⟩ => ?_
  subst he
  exact ⟨_, rfl, _, _, _, [], _, [], hW', trodAll_mk1 (shut_bool Tryz.underlying4 _), (trodAll_cons_mk (shut_string Tryz.underlying9 y0) trodAll_mk0), rfl, bel.frame _, fun h => by cases h⟩
theorem reads (os : Os) {H : Type} (enc : TypeId × Value → H) : ∃ places, DataW.whole enc Tryz.prog ((VarsRow.laidWorld os).forCall (fun _ _ => 0) ⟨#[], #[.string ByteArray.empty], []⟩).memory Tryz.f5.params.toList Rows.fnSemverSpec.vars false (#[.string ByteArray.empty] : Array Value).toList 8 = some ([.lit (.string [])], [], places) :=
  ⟨[], by kernel_rfl⟩
set_option maxRecDepth 100000 in
theorem lifted (os : Os) (started : os.Started) (H : Type) (enc : TypeId × Value → H) (F : Stop.Interp) :
    ReturnsInHanded {} Tryz.checked os 5 .any ((OpenSpec.ofChange Rows.fnSemverSpec).preRow enc Tryz.prog Tryz.f5 Rows.fnSemverRow.domain false Rows.fnSemverRow.laid) (((OpenSpec.ofChange Rows.fnSemverSpec).at F).post enc Tryz.prog Tryz.f5 false true false false) := by
  obtain ⟨places, hx⟩ := reads os enc
  refine returnsInHanded_of_row (C := Tryz.checked) (s := OpenSpec.ofChange Rows.fnSemverSpec) own started (by kernel_rfl) Tryz.func5
    (witness_row_at (enc := enc) (C := Tryz.checked) false (VarsRow.laidWorld os) #[.string ByteArray.empty] rfl (by kernel_rfl) (by kernel_rfl) (by kernel_rfl)
      (OpenSpec.preRow_of_cond 8 hx (by kernel_rfl) (fun k hk => by cases hk) (by kernel_rfl) (VarsRow.laid_met os #[.string ByteArray.empty]))) ?_
  intro W base args ds gs before hval hW _ _ hsz hL _ _
  exact contract H enc W base args ds gs before hval hW hsz hL
set_option maxRecDepth 100000 in
theorem fact0 : (Rows.fnSemverRow.wf (OpenSpec.ofChange (OpenSpec.ofChange Rows.fnSemverSpec).bare)) = true := by kernel_rfl
set_option maxRecDepth 100000 in
theorem fact1 : (laidOutB Tryz.prog) = true := HeadRow.laidOut
set_option maxRecDepth 100000 in
theorem fact2 : (mapsRowed Tryz.prog) = true := HeadRow.mapsRowed
set_option maxRecDepth 100000 in
theorem fact3 : (Tryz.f5.params.all (Tryz.prog.readableRec ·)) = true := by kernel_rfl
set_option maxRecDepth 100000 in
theorem fact4 : (namedTie Tryz.prog Rows.fnSemverRow.named (OpenSpec.ofChange Rows.fnSemverSpec).bare.vars) = true := by kernel_rfl
set_option maxRecDepth 100000 in
theorem fact5 : ((Rows.fnSemverRow.stops == [])) = true := by kernel_rfl
set_option maxRecDepth 100000 in
theorem fact6 : ((Tryz.prog.stops == [])) = true := by kernel_rfl
set_option maxRecDepth 100000 in
theorem fact7 : ((Rows.fnSemverRow.knobs == [])) = true := by kernel_rfl
set_option maxRecDepth 100000 in
theorem fact8 : ((Tryz.prog.stopKnobs == [])) = true := by kernel_rfl
set_option maxRecDepth 100000 in
theorem fact9 : ((Rows.fnSemverRow.inPlace == Tryz.prog.inPlace 5)) = true := by kernel_rfl
set_option maxRecDepth 100000 in
theorem fact10 : ((Rows.fnSemverRow.unfollowed == Tryz.prog.unfollowed 5)) = true := by kernel_rfl
set_option maxRecDepth 100000 in
theorem fact11 : ((Rows.fnSemverRow.recurses == Tryz.prog.recurses 5)) = true := by kernel_rfl
set_option maxRecDepth 100000 in
theorem fact12 : ((Rows.fnSemverRow.named == Tryz.prog.varsNamed 5)) = true := by kernel_rfl
set_option maxRecDepth 100000 in
theorem fact13 : ((Rows.fnSemverRow.maps == (Tryz.f5.params.toList ++ (OpenSpec.ofChange Rows.fnSemverSpec).bare.plain.varTypes Tryz.prog).any (Tryz.prog.mapsRec ·))) = true := by kernel_rfl
set_option maxRecDepth 100000 in
theorem fact14 : ((Rows.fnSemverRow.ifaces == (Tryz.f5.params.toList ++ (OpenSpec.ofChange Rows.fnSemverSpec).bare.plain.varTypes Tryz.prog).any (Tryz.prog.ifacesRec ·))) = true := by kernel_rfl
set_option maxRecDepth 100000 in
theorem fact15 : ((Rows.fnSemverRow.mapsOut == Tryz.prog.mapsAmong Tryz.f5.resultTypes.toList)) = true := by kernel_rfl
set_option maxRecDepth 100000 in
theorem fact16 : ((Rows.fnSemverRow.loops == (Tryz.f5.params.toList ++ (OpenSpec.ofChange Rows.fnSemverSpec).bare.plain.varTypes Tryz.prog).any (Tryz.prog.loopsFrom ·))) = true := by kernel_rfl
set_option maxRecDepth 100000 in
theorem fact17 : ((Rows.fnSemverRow.wideKeys == (Tryz.f5.params.toList ++ (OpenSpec.ofChange Rows.fnSemverSpec).bare.plain.varTypes Tryz.prog ++ Tryz.f5.resultTypes.toList).any (Tryz.prog.wideKeysFrom ·))) = true := by kernel_rfl
set_option maxRecDepth 100000 in
theorem fact18 : ((OpenSpec.ofChange Rows.fnSemverSpec).bare.vars.all (Tryz.prog.varReadable ·)) = true := by kernel_rfl
set_option maxRecDepth 100000 in
theorem fact19 : (Tryz.f5.resultTypes.all (fun t => Tryz.prog.readableRec t && decide (t < Tryz.prog.types.size))) = true := by kernel_rfl
set_option maxRecDepth 100000 in
theorem fact20 : ((Rows.fnSemverRow.ifacesOut == Tryz.f5.resultTypes.toList.any (Tryz.prog.ifacesRec ·))) = true := by kernel_rfl
set_option maxRecDepth 100000 in
theorem fact21 : ((Rows.fnSemverRow.loopsOut == Tryz.f5.resultTypes.toList.any (Tryz.prog.loopsFrom ·))) = true := by kernel_rfl
set_option maxRecDepth 100000 in
theorem fact22 : ((Rows.fnSemverRow.plainKeys == Tryz.prog.plainKeys)) = true := by kernel_rfl
set_option maxRecDepth 100000 in
theorem fact23 : (Rows.fnSemverRow.shortTexts.isNone) = true := by kernel_rfl
set_option maxRecDepth 100000 in
theorem fact24 : (Tryz.prog.stopsHeard) = true := HeadRow.stopsHeard
set_option maxRecDepth 100000 in
theorem fact25 : (Tryz.prog.mayEnter) = true := HeadRow.enter
set_option maxRecDepth 100000 in
theorem fact26 : ((Rows.fnSemverRow.lifted == Tryz.prog.liftsFinal)) = true := by rw [HeadRow.final]; kernel_rfl
set_option maxRecDepth 100000 in
theorem fact27 : ((Tryz.prog.make == some Rows.fnSemverRow.make)) = true := by rw [HeadRow.make]; kernel_rfl
set_option maxRecDepth 100000 in
theorem fact28 : ((Rows.fnSemverRow.kinds == (if Rows.fnSemverRow.domain.isEmpty then [] else Tryz.f5.params.toList.map fun t => match Tryz.prog.underlying t with | some (.int k) => some k | _ => none))) = true := by kernel_rfl
set_option maxRecDepth 100000 in
theorem fact29 : ((Rows.fnSemverRow.pinned == Rows.fnSemverRow.pinnedBy)) = true := by kernel_rfl
set_option maxRecDepth 100000 in
theorem fact30 : ((Rows.fnSemverRow.veiled == (Tryz.f5.params.toList ++ (OpenSpec.ofChange Rows.fnSemverSpec).bare.plain.varTypes Tryz.prog ++ Tryz.f5.resultTypes.toList).any (Tryz.prog.veiledRec ·))) = true := by kernel_rfl
set_option maxRecDepth 100000 in
theorem fact31 : (Rows.fnSemverRow.veiledFits Tryz.prog Tryz.f5.params.toList (Tryz.f5.params.toList ++ (OpenSpec.ofChange Rows.fnSemverSpec).bare.plain.varTypes Tryz.prog ++ Tryz.f5.resultTypes.toList)) = true := by kernel_rfl
theorem and_mk {a b : Bool} (ha : a = true) (hb : b = true) : (a && b) = true := by rw [ha, hb]; rfl
set_option maxRecDepth 100000 in
theorem facts : joinedFacts Tryz.prog 5 Tryz.f5 (OpenSpec.ofChange Rows.fnSemverSpec).bare Rows.fnSemverRow = true := by
  unfold joinedFacts
  exact (and_mk (and_mk (and_mk (and_mk (and_mk (and_mk (and_mk (and_mk (and_mk (and_mk (and_mk (and_mk (and_mk (and_mk (and_mk (and_mk (and_mk (and_mk (and_mk (and_mk (and_mk (and_mk (and_mk (and_mk (and_mk (and_mk (and_mk (and_mk (and_mk (and_mk (and_mk fact0 fact1) fact2) fact3) fact4) fact5) fact6) fact7) fact8) fact9) fact10) fact11) fact12) fact13) fact14) fact15) fact16) fact17) fact18) fact19) fact20) fact21) fact22) fact23) fact24) fact25) fact26) fact27) fact28) fact29) fact30) fact31)
theorem inst : Tryz.f5.isInstance Tryz.prog Rows.fnSemverRow.origin Rows.fnSemverRow.targs := of_decide_eq_true (by kernel_rfl)
theorem wrap : Tryz.f5.isWrapper Tryz.prog Rows.fnSemverRow.wrapper Rows.fnSemverRow.mainSum := by unfold Func.isWrapper; rw [if_neg (by decide +kernel)]; exact ⟨rfl, rfl⟩
set_option maxRecDepth 100000 in
theorem said : Rows.FnSemverSaid :=
  OpenClaim.holds_of_cond 5 Tryz.f5 rfl rfl rfl rfl rfl rfl rfl ⟨rfl, rfl, rfl, rfl, rfl⟩ rfl rfl rfl rfl rfl named Tryz.func5 facts
    inst wrap
    (fun os started H enc _ F => by rw [OpenClaim.pre_eq_preRow]; exact lifted os started H enc F)
theorem plain (f : FuncId) (fn : Func) (hf : Tryz.pinned.checked.prog.funcNamed "pub-caravanserai/laws.FnSemver" = some f) (hfn : Tryz.pinned.checked.prog.funcs[f]? = some fn) :
    true = Tryz.pinned.checked.prog.looks [] ∧ ∀ (j : Nat) t, fn.params[j]? = some t → Tryz.pinned.checked.prog.wantsStandIn t = false := by
  obtain rfl : f = 5 := Option.some.inj (named.symm.trans hf) |>.symm
  obtain rfl : fn = Tryz.f5 := (Option.some.inj (Tryz.func5.symm.trans hfn)).symm
  refine ⟨HeadRow.looks, fun j t ht => ?_⟩
  rw [Tryz.params5] at ht
  have hm : t ∈ (#[9] : Array TypeId) := Array.mem_of_getElem? ht
  have key : (#[9] : Array TypeId).all (fun t => Tryz.prog.wantsStandIn t == false) = true := by kernel_rfl
  exact beq_iff_eq.1 (Array.all_eq_true'.1 key t hm)
theorem wfText : Rows.fnSemverRow.wfByText (OpenSpec.ofChange Rows.fnSemverSpec) = true := by kernel_rfl
theorem goes : false = Rows.fnSemverRow.goesBy Tryz.prog := by kernel_rfl
set_option maxRecDepth 100000 in
theorem card : Rows.FnSemverCardSaid :=
  Claim7.holds_tied_plain_at .later [] _ _ (true, _) _ said (fun _ h => by cases h) wfText (fun _ h => by cases h) fnSemver_row_tie rfl ⟨rfl, rfl⟩ (HeadRow.main.trans (by rfl)) rfl plain goes
end Go.Proofs.YtgoeiflddikihaaGreatDoor.fnSemver
namespace Go.Proofs.YtgoeiflddikihaaGreatDoor
theorem fnSemver_holds : Rows.FnSemverCardSaid := fnSemver.card
end Go.Proofs.YtgoeiflddikihaaGreatDoor
