/- The row of FnSemverOrder and its card: for every input the call returns true, and each argument reads as it read. No condition. -/
import Derived.Test.YtgoeiflddikihaaGreatDoorCards
import Derived.Test.YtgoeiflddikihaaGreatDoorTie
import Derived.Test.YtgoeiflddikihaaGreatDoorCsoM5
import Derived.Test.YtgoeiflddikihaaGreatDoorCsoM3
import Derived.Test.YtgoeiflddikihaaGreatDoorProg
import Derived.Test.YtgoeiflddikihaaGreatDoorCsoM4
import Derived.Test.YtgoeiflddikihaaGreatDoorCsoM45
import Derived.WalkKit
import Derived.ProofKit
import Derived.OpenShut
import Derived.ShutString
import Derived.ChangeOld
import Derived.Below
import Derived.SizedLaws
import Derived.Deep.DeepHandedRow
import Derived.Lib.LaidTab
namespace Go.Proofs.YtgoeiflddikihaaGreatDoor.fnSemverOrder
open Go.ChangeShapes Go.WideShapes Go.ChangeAt Go.RowKit Go.Proofs.YtgoeiflddikihaaGreatDoorW.PrintWords Go.Proofs.YtgoeiflddikihaaGreatDoor.Opens
open Go.ChangeMaps (open_string shut_string)
set_option linter.unusedVariables false
open HeadRow (own laidOut)
theorem named : Tryz.prog.funcNamed "pub-caravanserai/laws.FnSemverOrder" = some 6 := by kernel_rfl
set_option maxRecDepth 100000 in
theorem contract (H : Type) (enc : TypeId × Value → H) (W : World) (base : Nat) (args : Array Value) (ds gs : List (DataW H)) (before : List MemPlace)
    (hval : ∀ (j : Nat) t v, Tryz.f6.params[j]? = some t → args[j]? = some v → Value.okWide Tryz.prog W .any base t v)
    (hW : DataW.Whole enc Tryz.prog Tryz.f6.params.toList Rows.fnSemverOrderSpec.vars false W args.toList ds gs before)
    (hsz : (DataW.weightsEach Tryz.prog (Tryz.f6.params.toList ++ Rows.fnSemverOrderSpec.plain.varTypes Tryz.prog) (ds ++ gs)).all (· ≤ reachBytes) = true)
    (hL : laidMetH Tryz.prog Rows.fnSemverOrderRow.laid W) :
    Calls Tryz.prog 6 args W fun e W' => ∃ v, e = .returned v ∧ Rows.fnSemverOrderSpec.post enc Tryz.prog Tryz.f6 false true false false W args v W' := by
  have hW' := hW
  obtain ⟨p, q, hA0, hV, rfl, hfz, hnd⟩ := hW
  have hA : DataW.TrodAll enc Tryz.prog W 0 (fun _ => true) true Tryz.f6.params.toList args.toList ds p := hA0
  rw [Tryz.params6] at hA hval hsz
  obtain ⟨v0, vs0, d0, ds0, p0, q0, hargs, rfl, rfl, h0, r0⟩ := trodAll_cons hA
  obtain ⟨v1, vs1, d1, ds1, p1, q1, rfl, rfl, rfl, h1, r1⟩ := trodAll_cons r0
  obtain ⟨rfl, rfl, rfl⟩ := trodAll_nil r1
  obtain rfl : args = #[v0, v1] := by cases args; simp_all
  obtain ⟨rfl, rfl⟩ := trodVars_none hV
  obtain ⟨a0, rfl, rfl, rfl, y0⟩ := open_string Tryz.underlying9 (hval 0 9 v0 rfl rfl) h0
  have w0 : a0.size ≤ 140737488351232 := by
    have z := sized_string hsz (j := 0) (t := 9) rfl rfl
    rw [Array.length_toList] at z
    exact z
  obtain ⟨a1, rfl, rfl, rfl, y1⟩ := open_string Tryz.underlying9 (hval 1 9 v1 rfl rfl) h1
  have w1 : a1.size ≤ 140737488351232 := by
    have z := sized_string hsz (j := 1) (t := 9) rfl rfl
    rw [Array.length_toList] at z
    exact z
  clear hA0 hsz
  refine (Ver.so_law a0 a1 W w0 w1 (VarsRow.vars_of hL)).mono fun e W' ⟨he, bel⟩ => ?_
  subst he
  exact ⟨_, rfl, _, _, _, [], _, [], hW', trodAll_mk1 (shut_bool Tryz.underlying4 _), (trodAll_cons_mk (shut_string Tryz.underlying9 y0) (trodAll_cons_mk (shut_string Tryz.underlying9 y1) trodAll_mk0)), rfl, bel.frame _, fun h => by cases h⟩
theorem reads (os : Os) {H : Type} (enc : TypeId × Value → H) : ∃ places, DataW.whole enc Tryz.prog ((VarsRow.laidWorld os).forCall (fun _ _ => 0) ⟨#[], #[.string ByteArray.empty, .string ByteArray.empty], []⟩).memory Tryz.f6.params.toList Rows.fnSemverOrderSpec.vars false (#[.string ByteArray.empty, .string ByteArray.empty] : Array Value).toList 8 = some ([.lit (.string []), .lit (.string [])], [], places) :=
  ⟨[], by kernel_rfl⟩
set_option maxRecDepth 100000 in
theorem lifted (os : Os) (started : os.Started) (H : Type) (enc : TypeId × Value → H) (F : Stop.Interp) :
    ReturnsInHanded {} Tryz.checked os 6 .any ((OpenSpec.ofChange Rows.fnSemverOrderSpec).preRow enc Tryz.prog Tryz.f6 Rows.fnSemverOrderRow.domain false Rows.fnSemverOrderRow.laid) (((OpenSpec.ofChange Rows.fnSemverOrderSpec).at F).post enc Tryz.prog Tryz.f6 false true false false) := by
  obtain ⟨places, hx⟩ := reads os enc
  refine returnsInHanded_of_row (C := Tryz.checked) (s := OpenSpec.ofChange Rows.fnSemverOrderSpec) own started (by kernel_rfl) Tryz.func6
    (witness_row_at (enc := enc) (C := Tryz.checked) false (VarsRow.laidWorld os) #[.string ByteArray.empty, .string ByteArray.empty] rfl (by kernel_rfl) (by kernel_rfl) (by kernel_rfl)
      (OpenSpec.preRow_of_cond 8 hx (by kernel_rfl) (fun k hk => by cases hk) (by kernel_rfl) (VarsRow.laid_met os #[.string ByteArray.empty, .string ByteArray.empty]))) ?_
  intro W base args ds gs before hval hW _ _ hsz hL _ _
  exact contract H enc W base args ds gs before hval hW hsz hL
set_option maxRecDepth 100000 in
theorem fact0 : (Rows.fnSemverOrderRow.wf (OpenSpec.ofChange (OpenSpec.ofChange Rows.fnSemverOrderSpec).bare)) = true := by kernel_rfl
set_option maxRecDepth 100000 in
theorem fact1 : (laidOutB Tryz.prog) = true := HeadRow.laidOut
set_option maxRecDepth 100000 in
theorem fact2 : (mapsRowed Tryz.prog) = true := HeadRow.mapsRowed
set_option maxRecDepth 100000 in
theorem fact3 : (Tryz.f6.params.all (Tryz.prog.readableRec ·)) = true := by kernel_rfl
set_option maxRecDepth 100000 in
theorem fact4 : (namedTie Tryz.prog Rows.fnSemverOrderRow.named (OpenSpec.ofChange Rows.fnSemverOrderSpec).bare.vars) = true := by kernel_rfl
set_option maxRecDepth 100000 in
theorem fact5 : ((Rows.fnSemverOrderRow.stops == [])) = true := by kernel_rfl
set_option maxRecDepth 100000 in
theorem fact6 : ((Tryz.prog.stops == [])) = true := by kernel_rfl
set_option maxRecDepth 100000 in
theorem fact7 : ((Rows.fnSemverOrderRow.knobs == [])) = true := by kernel_rfl
set_option maxRecDepth 100000 in
theorem fact8 : ((Tryz.prog.stopKnobs == [])) = true := by kernel_rfl
set_option maxRecDepth 100000 in
theorem fact9 : ((Rows.fnSemverOrderRow.inPlace == Tryz.prog.inPlace 6)) = true := by kernel_rfl
set_option maxRecDepth 100000 in
theorem fact10 : ((Rows.fnSemverOrderRow.unfollowed == Tryz.prog.unfollowed 6)) = true := by kernel_rfl
set_option maxRecDepth 100000 in
theorem fact11 : ((Rows.fnSemverOrderRow.recurses == Tryz.prog.recurses 6)) = true := by kernel_rfl
set_option maxRecDepth 100000 in
theorem fact12 : ((Rows.fnSemverOrderRow.named == Tryz.prog.varsNamed 6)) = true := by kernel_rfl
set_option maxRecDepth 100000 in
theorem fact13 : ((Rows.fnSemverOrderRow.maps == (Tryz.f6.params.toList ++ (OpenSpec.ofChange Rows.fnSemverOrderSpec).bare.plain.varTypes Tryz.prog).any (Tryz.prog.mapsRec ·))) = true := by kernel_rfl
set_option maxRecDepth 100000 in
theorem fact14 : ((Rows.fnSemverOrderRow.ifaces == (Tryz.f6.params.toList ++ (OpenSpec.ofChange Rows.fnSemverOrderSpec).bare.plain.varTypes Tryz.prog).any (Tryz.prog.ifacesRec ·))) = true := by kernel_rfl
set_option maxRecDepth 100000 in
theorem fact15 : ((Rows.fnSemverOrderRow.mapsOut == Tryz.prog.mapsAmong Tryz.f6.resultTypes.toList)) = true := by kernel_rfl
set_option maxRecDepth 100000 in
theorem fact16 : ((Rows.fnSemverOrderRow.loops == (Tryz.f6.params.toList ++ (OpenSpec.ofChange Rows.fnSemverOrderSpec).bare.plain.varTypes Tryz.prog).any (Tryz.prog.loopsFrom ·))) = true := by kernel_rfl
set_option maxRecDepth 100000 in
theorem fact17 : ((Rows.fnSemverOrderRow.wideKeys == (Tryz.f6.params.toList ++ (OpenSpec.ofChange Rows.fnSemverOrderSpec).bare.plain.varTypes Tryz.prog ++ Tryz.f6.resultTypes.toList).any (Tryz.prog.wideKeysFrom ·))) = true := by kernel_rfl
set_option maxRecDepth 100000 in
theorem fact18 : ((OpenSpec.ofChange Rows.fnSemverOrderSpec).bare.vars.all (Tryz.prog.varReadable ·)) = true := by kernel_rfl
set_option maxRecDepth 100000 in
theorem fact19 : (Tryz.f6.resultTypes.all (fun t => Tryz.prog.readableRec t && decide (t < Tryz.prog.types.size))) = true := by kernel_rfl
set_option maxRecDepth 100000 in
theorem fact20 : ((Rows.fnSemverOrderRow.ifacesOut == Tryz.f6.resultTypes.toList.any (Tryz.prog.ifacesRec ·))) = true := by kernel_rfl
set_option maxRecDepth 100000 in
theorem fact21 : ((Rows.fnSemverOrderRow.loopsOut == Tryz.f6.resultTypes.toList.any (Tryz.prog.loopsFrom ·))) = true := by kernel_rfl
set_option maxRecDepth 100000 in
theorem fact22 : ((Rows.fnSemverOrderRow.plainKeys == Tryz.prog.plainKeys)) = true := by kernel_rfl
set_option maxRecDepth 100000 in
theorem fact23 : (Rows.fnSemverOrderRow.shortTexts.isNone) = true := by kernel_rfl
set_option maxRecDepth 100000 in
theorem fact24 : (Tryz.prog.stopsHeard) = true := HeadRow.stopsHeard
set_option maxRecDepth 100000 in
theorem fact25 : (Tryz.prog.mayEnter) = true := HeadRow.enter
set_option maxRecDepth 100000 in
theorem fact26 : ((Rows.fnSemverOrderRow.lifted == Tryz.prog.liftsFinal)) = true := by rw [HeadRow.final]; kernel_rfl
set_option maxRecDepth 100000 in
theorem fact27 : ((Tryz.prog.make == some Rows.fnSemverOrderRow.make)) = true := by rw [HeadRow.make]; kernel_rfl
set_option maxRecDepth 100000 in
theorem fact28 : ((Rows.fnSemverOrderRow.kinds == (if Rows.fnSemverOrderRow.domain.isEmpty then [] else Tryz.f6.params.toList.map fun t => match Tryz.prog.underlying t with | some (.int k) => some k | _ => none))) = true := by kernel_rfl
set_option maxRecDepth 100000 in
theorem fact29 : ((Rows.fnSemverOrderRow.pinned == Rows.fnSemverOrderRow.pinnedBy)) = true := by kernel_rfl
set_option maxRecDepth 100000 in
theorem fact30 : ((Rows.fnSemverOrderRow.veiled == (Tryz.f6.params.toList ++ (OpenSpec.ofChange Rows.fnSemverOrderSpec).bare.plain.varTypes Tryz.prog ++ Tryz.f6.resultTypes.toList).any (Tryz.prog.veiledRec ·))) = true := by kernel_rfl
set_option maxRecDepth 100000 in
theorem fact31 : (Rows.fnSemverOrderRow.veiledFits Tryz.prog Tryz.f6.params.toList (Tryz.f6.params.toList ++ (OpenSpec.ofChange Rows.fnSemverOrderSpec).bare.plain.varTypes Tryz.prog ++ Tryz.f6.resultTypes.toList)) = true := by kernel_rfl
theorem and_mk {a b : Bool} (ha : a = true) (hb : b = true) : (a && b) = true := by rw [ha, hb]; rfl
set_option maxRecDepth 100000 in
theorem facts : joinedFacts Tryz.prog 6 Tryz.f6 (OpenSpec.ofChange Rows.fnSemverOrderSpec).bare Rows.fnSemverOrderRow = true := by
  unfold joinedFacts
  exact (and_mk (and_mk (and_mk (and_mk (and_mk (and_mk (and_mk (and_mk (and_mk (and_mk (and_mk (and_mk (and_mk (and_mk (and_mk (and_mk (and_mk (and_mk (and_mk (and_mk (and_mk (and_mk (and_mk (and_mk (and_mk (and_mk (and_mk (and_mk (and_mk (and_mk (and_mk fact0 fact1) fact2) fact3) fact4) fact5) fact6) fact7) fact8) fact9) fact10) fact11) fact12) fact13) fact14) fact15) fact16) fact17) fact18) fact19) fact20) fact21) fact22) fact23) fact24) fact25) fact26) fact27) fact28) fact29) fact30) fact31)
theorem inst : Tryz.f6.isInstance Tryz.prog Rows.fnSemverOrderRow.origin Rows.fnSemverOrderRow.targs := of_decide_eq_true (by kernel_rfl)
theorem wrap : Tryz.f6.isWrapper Tryz.prog Rows.fnSemverOrderRow.wrapper Rows.fnSemverOrderRow.mainSum := by unfold Func.isWrapper; rw [if_neg (by decide +kernel)]; exact ⟨rfl, rfl⟩
set_option maxRecDepth 100000 in
theorem said : Rows.FnSemverOrderSaid :=
  OpenClaim.holds_of_cond 6 Tryz.f6 rfl rfl rfl rfl rfl rfl rfl ⟨rfl, rfl, rfl, rfl, rfl⟩ rfl rfl rfl rfl rfl named Tryz.func6 facts
    inst wrap
    (fun os started H enc _ F => by rw [OpenClaim.pre_eq_preRow]; exact lifted os started H enc F)
theorem plain (f : FuncId) (fn : Func) (hf : Tryz.pinned.checked.prog.funcNamed "pub-caravanserai/laws.FnSemverOrder" = some f) (hfn : Tryz.pinned.checked.prog.funcs[f]? = some fn) :
    true = Tryz.pinned.checked.prog.looks [] ∧ ∀ (j : Nat) t, fn.params[j]? = some t → Tryz.pinned.checked.prog.wantsStandIn t = false := by
  obtain rfl : f = 6 := Option.some.inj (named.symm.trans hf) |>.symm
  obtain rfl : fn = Tryz.f6 := (Option.some.inj (Tryz.func6.symm.trans hfn)).symm
  refine ⟨HeadRow.looks, fun j t ht => ?_⟩
  rw [Tryz.params6] at ht
  have hm : t ∈ (#[9, 9] : Array TypeId) := Array.mem_of_getElem? ht
  have key : (#[9, 9] : Array TypeId).all (fun t => Tryz.prog.wantsStandIn t == false) = true := by kernel_rfl
  exact beq_iff_eq.1 (Array.all_eq_true'.1 key t hm)
theorem wfText : Rows.fnSemverOrderRow.wfByText (OpenSpec.ofChange Rows.fnSemverOrderSpec) = true := by kernel_rfl
theorem goes : false = Rows.fnSemverOrderRow.goesBy Tryz.prog := by kernel_rfl
set_option maxRecDepth 100000 in
theorem card : Rows.FnSemverOrderCardSaid :=
  Claim7.holds_tied_plain_at .later [] _ _ (true, _) _ said (fun _ h => by cases h) wfText (fun _ h => by cases h) fnSemverOrder_row_tie rfl ⟨rfl, rfl⟩ (HeadRow.main.trans (by rfl)) rfl plain goes
end Go.Proofs.YtgoeiflddikihaaGreatDoor.fnSemverOrder
namespace Go.Proofs.YtgoeiflddikihaaGreatDoor
theorem fnSemverOrder_holds : Rows.FnSemverOrderCardSaid := fnSemverOrder.card
end Go.Proofs.YtgoeiflddikihaaGreatDoor
