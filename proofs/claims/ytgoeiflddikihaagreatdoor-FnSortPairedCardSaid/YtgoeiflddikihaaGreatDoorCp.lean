/- The row of FnSortPaired and its card: for every input the call returns true, and each argument reads as it read. No condition. -/
import Derived.Test.YtgoeiflddikihaaGreatDoorCards
import Derived.Test.YtgoeiflddikihaaGreatDoorTie
import Derived.Test.YtgoeiflddikihaaGreatDoorCpM5
import Derived.Test.YtgoeiflddikihaaGreatDoorCpM6
import Derived.Test.YtgoeiflddikihaaGreatDoorCpM44
import Derived.Test.YtgoeiflddikihaaGreatDoorCpM11
import Derived.WalkKit
import Derived.ProofKit
import Derived.OpenShut
import Derived.ShutString
import Derived.ChangeOld
import Derived.Below
import Derived.SizedLaws
import Derived.Deep.DeepHandedRow
import Derived.Lib.LaidTab
namespace Go.Proofs.YtgoeiflddikihaaGreatDoor.fnSortPaired
open Go.ChangeShapes Go.WideShapes Go.ChangeAt Go.RowKit Go.Proofs.YtgoeiflddikihaaGreatDoorW.PrintWords Go.Proofs.YtgoeiflddikihaaGreatDoor.Opens
open Go.ChangeMaps (open_string shut_string)
set_option linter.unusedVariables false
open HeadRow (own laidOut)
theorem named : Tryz.prog.funcNamed "pub-caravanserai/laws.FnSortPaired" = some 10 := by kernel_rfl
set_option maxRecDepth 100000 in
theorem contract (H : Type) (enc : TypeId × Value → H) (W : World) (base : Nat) (args : Array Value) (ds gs : List (DataW H)) (before : List MemPlace)
    (hval : ∀ (j : Nat) t v, Tryz.f10.params[j]? = some t → args[j]? = some v → Value.okWide Tryz.prog W .any base t v)
    (hW : DataW.Whole enc Tryz.prog Tryz.f10.params.toList Rows.fnSortPairedSpec.vars false W args.toList ds gs before)
    (hsz : (DataW.weightsEach Tryz.prog (Tryz.f10.params.toList ++ Rows.fnSortPairedSpec.plain.varTypes Tryz.prog) (ds ++ gs)).all (· ≤ reachBytes) = true)
    (hL : laidMetH Tryz.prog Rows.fnSortPairedRow.laid W) :
    Calls Tryz.prog 10 args W fun e W' => ∃ v, e = .returned v ∧ Rows.fnSortPairedSpec.post enc Tryz.prog Tryz.f10 false true false false W args v W' := by
  have hW' := hW
  obtain ⟨p, q, hA0, hV, rfl, hfz, hnd⟩ := hW
  have hA : DataW.TrodAll enc Tryz.prog W 0 (fun _ => true) true Tryz.f10.params.toList args.toList ds p := hA0
  rw [Tryz.params10] at hA hval hsz
  obtain ⟨v0, vs0, d0, ds0, p0, q0, hargs, rfl, rfl, h0, r0⟩ := trodAll_cons hA
  obtain ⟨v1, vs1, d1, ds1, p1, q1, rfl, rfl, rfl, h1, r1⟩ := trodAll_cons r0
  obtain ⟨rfl, rfl, rfl⟩ := trodAll_nil r1
  obtain rfl : args = #[v0, v1] := by cases args; simp_all
  obtain ⟨rfl, rfl⟩ := trodVars_none hV
  obtain ⟨b0, len0, c0, rfl⟩ := okWide_slice Tryz.underlying23 (hval 0 23 v0 rfl rfl)
  have k0 := h0
  have lt0 : ∀ x ∈ p0, x.block < W.heap.size := by obtain ⟨m, hm⟩ := k0; exact DataW.trod_lt m _ _ _ hm
  obtain ⟨m0, hm0⟩ := h0
  obtain ⟨a0, ⟨A0, e0, hz0, hcap0, hC0⟩, gz0⟩ := (opens_27s) H enc W 0 _ true m0 _ _ hm0
  obtain ⟨rfl, rfl, rfl⟩ : b0 = A0 ∧ len0 = a0.length ∧ c0 = e0 := by simpa [Value.cells] using hz0
  obtain ⟨a1, rfl, rfl, rfl⟩ := open_bool Tryz.underlying4 (hval 1 4 v1 rfl rfl) h1
  clear hA0 hsz
  refine (Ver.paired_law a0 a1 W b0 c0 hC0 hcap0 gz0 (VarsRow.vars_of hL)).mono fun e W' ⟨he, bel⟩ => ?_
  subst he
  exact ⟨_, rfl, _, _, _, [], _, [], hW', trodAll_mk1 (shut_bool Tryz.underlying4 _), (trodAll_cons_mk (Below.trod laidOut (by kernel_rfl) (of_decide_eq_true (by kernel_rfl)) k0 bel lt0) (trodAll_cons_mk (shut_bool Tryz.underlying4 _) trodAll_mk0)), rfl, bel.frame _, fun h => by cases h⟩
theorem reads (os : Os) {H : Type} (enc : TypeId × Value → H) : ∃ places, DataW.whole enc Tryz.prog ((VarsRow.laidWorld os).forCall (fun _ _ => 0) ⟨#[], #[.slice none 0 0, .bool false], []⟩).memory Tryz.f10.params.toList Rows.fnSortPairedSpec.vars false (#[.slice none 0 0, .bool false] : Array Value).toList 8 = some ([.nil, .lit (.bool false)], [], places) :=
  ⟨[], by kernel_rfl⟩
set_option maxRecDepth 100000 in
theorem lifted (os : Os) (started : os.Started) (H : Type) (enc : TypeId × Value → H) (F : Stop.Interp) :
    ReturnsInHanded {} Tryz.checked os 10 .any ((OpenSpec.ofChange Rows.fnSortPairedSpec).preRow enc Tryz.prog Tryz.f10 Rows.fnSortPairedRow.domain false Rows.fnSortPairedRow.laid) (((OpenSpec.ofChange Rows.fnSortPairedSpec).at F).post enc Tryz.prog Tryz.f10 false true false false) := by
  obtain ⟨places, hx⟩ := reads os enc
  refine returnsInHanded_of_row (C := Tryz.checked) (s := OpenSpec.ofChange Rows.fnSortPairedSpec) own started (by kernel_rfl) Tryz.func10
    (witness_row_at (enc := enc) (C := Tryz.checked) false (VarsRow.laidWorld os) #[.slice none 0 0, .bool false] rfl (by kernel_rfl) (by kernel_rfl) (by kernel_rfl)
      (OpenSpec.preRow_of_cond 8 hx (by kernel_rfl) (fun k hk => by cases hk) (by kernel_rfl) (VarsRow.laid_met os #[.slice none 0 0, .bool false]))) ?_
  intro W base args ds gs before hval hW _ _ hsz hL _ _
  exact contract H enc W base args ds gs before hval hW hsz hL
set_option maxRecDepth 100000 in
theorem fact0 : (Rows.fnSortPairedRow.wf (OpenSpec.ofChange (OpenSpec.ofChange Rows.fnSortPairedSpec).bare)) = true := by kernel_rfl
set_option maxRecDepth 100000 in
theorem fact1 : (laidOutB Tryz.prog) = true := HeadRow.laidOut
set_option maxRecDepth 100000 in
theorem fact2 : (mapsRowed Tryz.prog) = true := HeadRow.mapsRowed
set_option maxRecDepth 100000 in
theorem fact3 : (Tryz.f10.params.all (Tryz.prog.readableRec ·)) = true := by kernel_rfl
set_option maxRecDepth 100000 in
theorem fact4 : (namedTie Tryz.prog Rows.fnSortPairedRow.named (OpenSpec.ofChange Rows.fnSortPairedSpec).bare.vars) = true := by kernel_rfl
set_option maxRecDepth 100000 in
theorem fact5 : ((Rows.fnSortPairedRow.stops == [])) = true := by kernel_rfl
set_option maxRecDepth 100000 in
theorem fact6 : ((Tryz.prog.stops == [])) = true := by kernel_rfl
set_option maxRecDepth 100000 in
theorem fact7 : ((Rows.fnSortPairedRow.knobs == [])) = true := by kernel_rfl
set_option maxRecDepth 100000 in
theorem fact8 : ((Tryz.prog.stopKnobs == [])) = true := by kernel_rfl
set_option maxRecDepth 100000 in
theorem fact9 : ((Rows.fnSortPairedRow.inPlace == Tryz.prog.inPlace 10)) = true := by kernel_rfl
set_option maxRecDepth 100000 in
theorem fact10 : ((Rows.fnSortPairedRow.unfollowed == Tryz.prog.unfollowed 10)) = true := by kernel_rfl
set_option maxRecDepth 100000 in
theorem fact11 : ((Rows.fnSortPairedRow.recurses == Tryz.prog.recurses 10)) = true := by kernel_rfl
set_option maxRecDepth 100000 in
theorem fact12 : ((Rows.fnSortPairedRow.named == Tryz.prog.varsNamed 10)) = true := by kernel_rfl
set_option maxRecDepth 100000 in
theorem fact13 : ((Rows.fnSortPairedRow.maps == (Tryz.f10.params.toList ++ (OpenSpec.ofChange Rows.fnSortPairedSpec).bare.plain.varTypes Tryz.prog).any (Tryz.prog.mapsRec ·))) = true := by kernel_rfl
set_option maxRecDepth 100000 in
theorem fact14 : ((Rows.fnSortPairedRow.ifaces == (Tryz.f10.params.toList ++ (OpenSpec.ofChange Rows.fnSortPairedSpec).bare.plain.varTypes Tryz.prog).any (Tryz.prog.ifacesRec ·))) = true := by kernel_rfl
set_option maxRecDepth 100000 in
theorem fact15 : ((Rows.fnSortPairedRow.mapsOut == Tryz.prog.mapsAmong Tryz.f10.resultTypes.toList)) = true := by kernel_rfl
set_option maxRecDepth 100000 in
theorem fact16 : ((Rows.fnSortPairedRow.loops == (Tryz.f10.params.toList ++ (OpenSpec.ofChange Rows.fnSortPairedSpec).bare.plain.varTypes Tryz.prog).any (Tryz.prog.loopsFrom ·))) = true := by kernel_rfl
set_option maxRecDepth 100000 in
theorem fact17 : ((Rows.fnSortPairedRow.wideKeys == (Tryz.f10.params.toList ++ (OpenSpec.ofChange Rows.fnSortPairedSpec).bare.plain.varTypes Tryz.prog ++ Tryz.f10.resultTypes.toList).any (Tryz.prog.wideKeysFrom ·))) = true := by kernel_rfl
set_option maxRecDepth 100000 in
theorem fact18 : ((OpenSpec.ofChange Rows.fnSortPairedSpec).bare.vars.all (Tryz.prog.varReadable ·)) = true := by kernel_rfl
set_option maxRecDepth 100000 in
theorem fact19 : (Tryz.f10.resultTypes.all (fun t => Tryz.prog.readableRec t && decide (t < Tryz.prog.types.size))) = true := by kernel_rfl
set_option maxRecDepth 100000 in
theorem fact20 : ((Rows.fnSortPairedRow.ifacesOut == Tryz.f10.resultTypes.toList.any (Tryz.prog.ifacesRec ·))) = true := by kernel_rfl
set_option maxRecDepth 100000 in
theorem fact21 : ((Rows.fnSortPairedRow.loopsOut == Tryz.f10.resultTypes.toList.any (Tryz.prog.loopsFrom ·))) = true := by kernel_rfl
set_option maxRecDepth 100000 in
theorem fact22 : ((Rows.fnSortPairedRow.plainKeys == Tryz.prog.plainKeys)) = true := by kernel_rfl
set_option maxRecDepth 100000 in
theorem fact23 : (Rows.fnSortPairedRow.shortTexts.isNone) = true := by kernel_rfl
set_option maxRecDepth 100000 in
theorem fact24 : (Tryz.prog.stopsHeard) = true := HeadRow.stopsHeard
set_option maxRecDepth 100000 in
theorem fact25 : (Tryz.prog.mayEnter) = true := HeadRow.enter
set_option maxRecDepth 100000 in
theorem fact26 : ((Rows.fnSortPairedRow.lifted == Tryz.prog.liftsFinal)) = true := by rw [HeadRow.final]; kernel_rfl
set_option maxRecDepth 100000 in
theorem fact27 : ((Tryz.prog.make == some Rows.fnSortPairedRow.make)) = true := by rw [HeadRow.make]; kernel_rfl
set_option maxRecDepth 100000 in
theorem fact28 : ((Rows.fnSortPairedRow.kinds == (if Rows.fnSortPairedRow.domain.isEmpty then [] else Tryz.f10.params.toList.map fun t => match Tryz.prog.underlying t with | some (.int k) => some k | _ => none))) = true := by kernel_rfl
set_option maxRecDepth 100000 in
theorem fact29 : ((Rows.fnSortPairedRow.pinned == Rows.fnSortPairedRow.pinnedBy)) = true := by kernel_rfl
set_option maxRecDepth 100000 in
theorem fact30 : ((Rows.fnSortPairedRow.veiled == (Tryz.f10.params.toList ++ (OpenSpec.ofChange Rows.fnSortPairedSpec).bare.plain.varTypes Tryz.prog ++ Tryz.f10.resultTypes.toList).any (Tryz.prog.veiledRec ·))) = true := by kernel_rfl
set_option maxRecDepth 100000 in
theorem fact31 : (Rows.fnSortPairedRow.veiledFits Tryz.prog Tryz.f10.params.toList (Tryz.f10.params.toList ++ (OpenSpec.ofChange Rows.fnSortPairedSpec).bare.plain.varTypes Tryz.prog ++ Tryz.f10.resultTypes.toList)) = true := by kernel_rfl
theorem and_mk {a b : Bool} (ha : a = true) (hb : b = true) : (a && b) = true := by rw [ha, hb]; rfl
set_option maxRecDepth 100000 in
theorem facts : joinedFacts Tryz.prog 10 Tryz.f10 (OpenSpec.ofChange Rows.fnSortPairedSpec).bare Rows.fnSortPairedRow = true := by
  unfold joinedFacts
  exact (and_mk (and_mk (and_mk (and_mk (and_mk (and_mk (and_mk (and_mk (and_mk (and_mk (and_mk (and_mk (and_mk (and_mk (and_mk (and_mk (and_mk (and_mk (and_mk (and_mk (and_mk (and_mk (and_mk (and_mk (and_mk (and_mk (and_mk (and_mk (and_mk (and_mk (and_mk fact0 fact1) fact2) fact3) fact4) fact5) fact6) fact7) fact8) fact9) fact10) fact11) fact12) fact13) fact14) fact15) fact16) fact17) fact18) fact19) fact20) fact21) fact22) fact23) fact24) fact25) fact26) fact27) fact28) fact29) fact30) fact31)
theorem inst : Tryz.f10.isInstance Tryz.prog Rows.fnSortPairedRow.origin Rows.fnSortPairedRow.targs := of_decide_eq_true (by kernel_rfl)
theorem wrap : Tryz.f10.isWrapper Tryz.prog Rows.fnSortPairedRow.wrapper Rows.fnSortPairedRow.mainSum := by unfold Func.isWrapper; rw [if_neg (by decide +kernel)]; exact ⟨rfl, rfl⟩
set_option maxRecDepth 100000 in
theorem said : Rows.FnSortPairedSaid :=
  OpenClaim.holds_of_cond 10 Tryz.f10 rfl rfl rfl rfl rfl rfl rfl ⟨rfl, rfl, rfl, rfl, rfl⟩ rfl rfl rfl rfl rfl named Tryz.func10 facts
    inst wrap
    (fun os started H enc _ F => by rw [OpenClaim.pre_eq_preRow]; exact lifted os started H enc F)
theorem plain (f : FuncId) (fn : Func) (hf : Tryz.pinned.checked.prog.funcNamed "pub-caravanserai/laws.FnSortPaired" = some f) (hfn : Tryz.pinned.checked.prog.funcs[f]? = some fn) :
    true = Tryz.pinned.checked.prog.looks [] ∧ ∀ (j : Nat) t, fn.params[j]? = some t → Tryz.pinned.checked.prog.wantsStandIn t = false := by
  obtain rfl : f = 10 := Option.some.inj (named.symm.trans hf) |>.symm
  obtain rfl : fn = Tryz.f10 := (Option.some.inj (Tryz.func10.symm.trans hfn)).symm
  refine ⟨HeadRow.looks, fun j t ht => ?_⟩
  rw [Tryz.params10] at ht
  have hm : t ∈ (#[23, 4] : Array TypeId) := Array.mem_of_getElem? ht
  have key : (#[23, 4] : Array TypeId).all (fun t => Tryz.prog.wantsStandIn t == false) = true := by kernel_rfl
  exact beq_iff_eq.1 (Array.all_eq_true'.1 key t hm)
theorem wfText : Rows.fnSortPairedRow.wfByText (OpenSpec.ofChange Rows.fnSortPairedSpec) = true := by kernel_rfl
theorem goes : false = Rows.fnSortPairedRow.goesBy Tryz.prog := by kernel_rfl
set_option maxRecDepth 100000 in
theorem card : Rows.FnSortPairedCardSaid :=
  Claim7.holds_tied_plain_at .later [] _ _ (true, _) _ said (fun _ h => by cases h) wfText (fun _ h => by cases h) fnSortPaired_row_tie rfl ⟨rfl, rfl⟩ (HeadRow.main.trans (by rfl)) rfl plain goes
end Go.Proofs.YtgoeiflddikihaaGreatDoor.fnSortPaired
namespace Go.Proofs.YtgoeiflddikihaaGreatDoor
theorem fnSortPaired_holds : Rows.FnSortPairedCardSaid := fnSortPaired.card
end Go.Proofs.YtgoeiflddikihaaGreatDoor
