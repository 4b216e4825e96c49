/- The row of FnSign and its card: for every input the call returns true, and each argument reads as it read. No condition. -/
import Derived.Test.YtgoeiflddikihaaGreatDoorCards
import Derived.Test.YtgoeiflddikihaaGreatDoorTie
import Derived.Test.YtgoeiflddikihaaGreatDoorCsgM4
import Derived.Test.YtgoeiflddikihaaGreatDoorCsgM3
import Derived.Test.YtgoeiflddikihaaGreatDoorProg
import Derived.Test.YtgoeiflddikihaaGreatDoorCsgM5
import Derived.Test.YtgoeiflddikihaaGreatDoorCsgM51
import Derived.WalkKit
import Derived.ProofKit
import Derived.OpenShut
import Derived.ShutString
import Derived.ChangeOld
import Derived.Below
import Derived.SizedLaws
import Derived.Deep.DeepHandedRow
import Derived.Lib.LaidTab
namespace Go.Proofs.YtgoeiflddikihaaGreatDoor.fnSign
open Go.ChangeShapes Go.WideShapes Go.ChangeAt Go.RowKit Go.Proofs.YtgoeiflddikihaaGreatDoorW.PrintWords Go.Proofs.YtgoeiflddikihaaGreatDoor.Opens
open Go.ChangeMaps (open_string shut_string)
set_option linter.unusedVariables false
open HeadRow (own laidOut)
theorem named : Tryz.prog.funcNamed "pub-caravanserai/laws.FnSign" = some 7 := by kernel_rfl
set_option maxRecDepth 100000 in
theorem contract (H : Type) (enc : TypeId × Value → H) (W : World) (base : Nat) (args : Array Value) (ds gs : List (DataW H)) (before : List MemPlace)
    (hval : ∀ (j : Nat) t v, Tryz.f7.params[j]? = some t → args[j]? = some v → Value.okWide Tryz.prog W .any base t v)
    (hW : DataW.Whole enc Tryz.prog Tryz.f7.params.toList Rows.fnSignSpec.vars false W args.toList ds gs before)
    (hsz : (DataW.weightsEach Tryz.prog (Tryz.f7.params.toList ++ Rows.fnSignSpec.plain.varTypes Tryz.prog) (ds ++ gs)).all (· ≤ reachBytes) = true)
    (hL : laidMetH Tryz.prog Rows.fnSignRow.laid W) :
    Calls Tryz.prog 7 args W fun e W' => ∃ v, e = .returned v ∧ Rows.fnSignSpec.post enc Tryz.prog Tryz.f7 false true false false W args v W' := by
  have hW' := hW
  obtain ⟨p, q, hA0, hV, rfl, hfz, hnd⟩ := hW
  have hA : DataW.TrodAll enc Tryz.prog W 0 (fun _ => true) true Tryz.f7.params.toList args.toList ds p := hA0
  rw [Tryz.params7] at hA hval hsz
  obtain ⟨v0, vs0, d0, ds0, p0, q0, hargs, rfl, rfl, h0, r0⟩ := trodAll_cons hA
  obtain ⟨v1, vs1, d1, ds1, p1, q1, rfl, rfl, rfl, h1, r1⟩ := trodAll_cons r0
  obtain ⟨v2, vs2, d2, ds2, p2, q2, rfl, rfl, rfl, h2, r2⟩ := trodAll_cons r1
  obtain ⟨v3, vs3, d3, ds3, p3, q3, rfl, rfl, rfl, h3, r3⟩ := trodAll_cons r2
  obtain ⟨v4, vs4, d4, ds4, p4, q4, rfl, rfl, rfl, h4, r4⟩ := trodAll_cons r3
  obtain ⟨rfl, rfl, rfl⟩ := trodAll_nil r4
  obtain rfl : args = #[v0, v1, v2, v3, v4] := by cases args; simp_all
  obtain ⟨rfl, rfl⟩ := trodVars_none hV
  obtain ⟨a0, rfl, rfl, rfl, y0⟩ := open_string Tryz.underlying9 (hval 0 9 v0 rfl rfl) h0
  have w0 : a0.size ≤ 140737488351232 := by
    have z := sized_string hsz (j := 0) (t := 9) rfl rfl
    rw [Array.length_toList] at z
    exact z
  obtain ⟨cs1, rfl, _⟩ := okWide_arr Tryz.underlying61 (hval 1 61 v1 rfl rfl)
  have k1 := h1
  have lt1 : ∀ x ∈ p1, x.block < W.heap.size := by obtain ⟨m, hm⟩ := k1; exact DataW.trod_lt m _ _ _ hm
  obtain ⟨m1, hm1⟩ := h1
  obtain ⟨a1, hK1, gz1⟩ := opens_arr3 H enc W 0 _ true m1 _ _ hm1
  obtain rfl := form_arr3 hK1
  obtain ⟨cs2, rfl, _⟩ := okWide_arr Tryz.underlying61 (hval 2 61 v2 rfl rfl)
  have k2 := h2
  have lt2 : ∀ x ∈ p2, x.block < W.heap.size := by obtain ⟨m, hm⟩ := k2; exact DataW.trod_lt m _ _ _ hm
  obtain ⟨m2, hm2⟩ := h2
  obtain ⟨a2, hK2, gz2⟩ := opens_arr3 H enc W 0 _ true m2 _ _ hm2
  obtain rfl := form_arr3 hK2
  obtain ⟨a3, rfl, rfl, rfl, y3⟩ := open_string Tryz.underlying9 (hval 3 9 v3 rfl rfl) h3
  have w3 : a3.size ≤ 140737488351232 := by
    have z := sized_string hsz (j := 3) (t := 9) rfl rfl
    rw [Array.length_toList] at z
    exact z
  obtain ⟨a4, rfl, rfl, rfl, y4⟩ := open_string Tryz.underlying9 (hval 4 9 v4 rfl rfl) h4
  have w4 : a4.size ≤ 140737488351232 := by
    have z := sized_string hsz (j := 4) (t := 9) rfl rfl
    rw [Array.length_toList] at z
    exact z
  clear hA0 hsz
  refine (Ver.sg_law a0 a1.1 a1.2.1 a1.2.2 a2.1 a2.2.1 a2.2.2 a3 a4 W w0 gz1 gz2 w3 w4 (VarsRow.vars_of hL)).mono fun e W' ⟨he, bel⟩ => ?_
  subst he
  exact ⟨_, rfl, _, _, _, [], _, [], hW', trodAll_mk1 (shut_bool Tryz.underlying4 _), (trodAll_cons_mk (shut_string Tryz.underlying9 y0) (trodAll_cons_mk (Below.trod laidOut (by kernel_rfl) (of_decide_eq_true (by kernel_rfl)) k1 bel lt1) (trodAll_cons_mk (Below.trod laidOut (by kernel_rfl) (of_decide_eq_true (by kernel_rfl)) k2 bel lt2) (trodAll_cons_mk (shut_string Tryz.underlying9 y3) (trodAll_cons_mk (shut_string Tryz.underlying9 y4) trodAll_mk0))))), rfl, bel.frame _, fun h => by cases h⟩
theorem reads (os : Os) {H : Type} (enc : TypeId × Value → H) : ∃ places, DataW.whole enc Tryz.prog ((VarsRow.laidWorld os).forCall (fun _ _ => 0) ⟨#[], #[.string ByteArray.empty, .agg #[.int .u32 0, .int .u32 0, .int .u32 0], .agg #[.int .u32 0, .int .u32 0, .int .u32 0], .string ByteArray.empty, .string ByteArray.empty], []⟩).memory Tryz.f7.params.toList Rows.fnSignSpec.vars false (#[.string ByteArray.empty, .agg #[.int .u32 0, .int .u32 0, .int .u32 0], .agg #[.int .u32 0, .int .u32 0, .int .u32 0], .string ByteArray.empty, .string ByteArray.empty] : Array Value).toList 8 = some ([.lit (.string []), .agg [.lit (.int .u32 0), .lit (.int .u32 0), .lit (.int .u32 0)], .agg [.lit (.int .u32 0), .lit (.int .u32 0), .lit (.int .u32 0)], .lit (.string []), .lit (.string [])], [], places) :=
  ⟨[], by kernel_rfl⟩
set_option maxRecDepth 100000 in
theorem lifted (os : Os) (started : os.Started) (H : Type) (enc : TypeId × Value → H) (F : Stop.Interp) :
    ReturnsInHanded {} Tryz.checked os 7 .any ((OpenSpec.ofChange Rows.fnSignSpec).preRow enc Tryz.prog Tryz.f7 Rows.fnSignRow.domain false Rows.fnSignRow.laid) (((OpenSpec.ofChange Rows.fnSignSpec).at F).post enc Tryz.prog Tryz.f7 false true false false) := by
  obtain ⟨places, hx⟩ := reads os enc
  refine returnsInHanded_of_row (C := Tryz.checked) (s := OpenSpec.ofChange Rows.fnSignSpec) own started (by kernel_rfl) Tryz.func7
    (witness_row_at (enc := enc) (C := Tryz.checked) false (VarsRow.laidWorld os) #[.string ByteArray.empty, .agg #[.int .u32 0, .int .u32 0, .int .u32 0], .agg #[.int .u32 0, .int .u32 0, .int .u32 0], .string ByteArray.empty, .string ByteArray.empty] rfl (by kernel_rfl) (by kernel_rfl) (by kernel_rfl)
      (OpenSpec.preRow_of_cond 8 hx (by kernel_rfl) (fun k hk => by cases hk) (by kernel_rfl) (VarsRow.laid_met os #[.string ByteArray.empty, .agg #[.int .u32 0, .int .u32 0, .int .u32 0], .agg #[.int .u32 0, .int .u32 0, .int .u32 0], .string ByteArray.empty, .string ByteArray.empty]))) ?_
  intro W base args ds gs before hval hW _ _ hsz hL _ _
  exact contract H enc W base args ds gs before hval hW hsz hL
set_option maxRecDepth 100000 in
theorem fact0 : (Rows.fnSignRow.wf (OpenSpec.ofChange (OpenSpec.ofChange Rows.fnSignSpec).bare)) = true := by kernel_rfl
set_option maxRecDepth 100000 in
theorem fact1 : (laidOutB Tryz.prog) = true := HeadRow.laidOut
set_option maxRecDepth 100000 in
theorem fact2 : (mapsRowed Tryz.prog) = true := HeadRow.mapsRowed
set_option maxRecDepth 100000 in
theorem fact3 : (Tryz.f7.params.all (Tryz.prog.readableRec ·)) = true := by kernel_rfl
set_option maxRecDepth 100000 in
theorem fact4 : (namedTie Tryz.prog Rows.fnSignRow.named (OpenSpec.ofChange Rows.fnSignSpec).bare.vars) = true := by kernel_rfl
set_option maxRecDepth 100000 in
theorem fact5 : ((Rows.fnSignRow.stops == [])) = true := by kernel_rfl
set_option maxRecDepth 100000 in
theorem fact6 : ((Tryz.prog.stops == [])) = true := by kernel_rfl
set_option maxRecDepth 100000 in
theorem fact7 : ((Rows.fnSignRow.knobs == [])) = true := by kernel_rfl
set_option maxRecDepth 100000 in
theorem fact8 : ((Tryz.prog.stopKnobs == [])) = true := by kernel_rfl
set_option maxRecDepth 100000 in
theorem fact9 : ((Rows.fnSignRow.inPlace == Tryz.prog.inPlace 7)) = true := by kernel_rfl
set_option maxRecDepth 100000 in
theorem fact10 : ((Rows.fnSignRow.unfollowed == Tryz.prog.unfollowed 7)) = true := by kernel_rfl
set_option maxRecDepth 100000 in
theorem fact11 : ((Rows.fnSignRow.recurses == Tryz.prog.recurses 7)) = true := by kernel_rfl
set_option maxRecDepth 100000 in
theorem fact12 : ((Rows.fnSignRow.named == Tryz.prog.varsNamed 7)) = true := by kernel_rfl
set_option maxRecDepth 100000 in
theorem fact13 : ((Rows.fnSignRow.maps == (Tryz.f7.params.toList ++ (OpenSpec.ofChange Rows.fnSignSpec).bare.plain.varTypes Tryz.prog).any (Tryz.prog.mapsRec ·))) = true := by kernel_rfl
set_option maxRecDepth 100000 in
theorem fact14 : ((Rows.fnSignRow.ifaces == (Tryz.f7.params.toList ++ (OpenSpec.ofChange Rows.fnSignSpec).bare.plain.varTypes Tryz.prog).any (Tryz.prog.ifacesRec ·))) = true := by kernel_rfl
set_option maxRecDepth 100000 in
theorem fact15 : ((Rows.fnSignRow.mapsOut == Tryz.prog.mapsAmong Tryz.f7.resultTypes.toList)) = true := by kernel_rfl
set_option maxRecDepth 100000 in
theorem fact16 : ((Rows.fnSignRow.loops == (Tryz.f7.params.toList ++ (OpenSpec.ofChange Rows.fnSignSpec).bare.plain.varTypes Tryz.prog).any (Tryz.prog.loopsFrom ·))) = true := by kernel_rfl
set_option maxRecDepth 100000 in
theorem fact17 : ((Rows.fnSignRow.wideKeys == (Tryz.f7.params.toList ++ (OpenSpec.ofChange Rows.fnSignSpec).bare.plain.varTypes Tryz.prog ++ Tryz.f7.resultTypes.toList).any (Tryz.prog.wideKeysFrom ·))) = true := by kernel_rfl
set_option maxRecDepth 100000 in
theorem fact18 : ((OpenSpec.ofChange Rows.fnSignSpec).bare.vars.all (Tryz.prog.varReadable ·)) = true := by kernel_rfl
set_option maxRecDepth 100000 in
theorem fact19 : (Tryz.f7.resultTypes.all (fun t => Tryz.prog.readableRec t && decide (t < Tryz.prog.types.size))) = true := by kernel_rfl
set_option maxRecDepth 100000 in
theorem fact20 : ((Rows.fnSignRow.ifacesOut == Tryz.f7.resultTypes.toList.any (Tryz.prog.ifacesRec ·))) = true := by kernel_rfl
set_option maxRecDepth 100000 in
theorem fact21 : ((Rows.fnSignRow.loopsOut == Tryz.f7.resultTypes.toList.any (Tryz.prog.loopsFrom ·))) = true := by kernel_rfl
set_option maxRecDepth 100000 in
theorem fact22 : ((Rows.fnSignRow.plainKeys == Tryz.prog.plainKeys)) = true := by kernel_rfl
set_option maxRecDepth 100000 in
theorem fact23 : (Rows.fnSignRow.shortTexts.isNone) = true := by kernel_rfl
set_option maxRecDepth 100000 in
theorem fact24 : (Tryz.prog.stopsHeard) = true := HeadRow.stopsHeard
set_option maxRecDepth 100000 in
theorem fact25 : (Tryz.prog.mayEnter) = true := HeadRow.enter
set_option maxRecDepth 100000 in
theorem fact26 : ((Rows.fnSignRow.lifted == Tryz.prog.liftsFinal)) = true := by rw [HeadRow.final]; kernel_rfl
set_option maxRecDepth 100000 in
theorem fact27 : ((Tryz.prog.make == some Rows.fnSignRow.make)) = true := by rw [HeadRow.make]; kernel_rfl
set_option maxRecDepth 100000 in
theorem fact28 : ((Rows.fnSignRow.kinds == (if Rows.fnSignRow.domain.isEmpty then [] else Tryz.f7.params.toList.map fun t => match Tryz.prog.underlying t with | some (.int k) => some k | _ => none))) = true := by kernel_rfl
set_option maxRecDepth 100000 in
theorem fact29 : ((Rows.fnSignRow.pinned == Rows.fnSignRow.pinnedBy)) = true := by kernel_rfl
set_option maxRecDepth 100000 in
theorem fact30 : ((Rows.fnSignRow.veiled == (Tryz.f7.params.toList ++ (OpenSpec.ofChange Rows.fnSignSpec).bare.plain.varTypes Tryz.prog ++ Tryz.f7.resultTypes.toList).any (Tryz.prog.veiledRec ·))) = true := by kernel_rfl
set_option maxRecDepth 100000 in
theorem fact31 : (Rows.fnSignRow.veiledFits Tryz.prog Tryz.f7.params.toList (Tryz.f7.params.toList ++ (OpenSpec.ofChange Rows.fnSignSpec).bare.plain.varTypes Tryz.prog ++ Tryz.f7.resultTypes.toList)) = true := by kernel_rfl
theorem and_mk {a b : Bool} (ha : a = true) (hb : b = true) : (a && b) = true := by rw [ha, hb]; rfl
set_option maxRecDepth 100000 in
theorem facts : joinedFacts Tryz.prog 7 Tryz.f7 (OpenSpec.ofChange Rows.fnSignSpec).bare Rows.fnSignRow = true := by
  unfold joinedFacts
  exact (and_mk (and_mk (and_mk (and_mk (and_mk (and_mk (and_mk (and_mk (and_mk (and_mk (and_mk (and_mk (and_mk (and_mk (and_mk (and_mk (and_mk (and_mk (and_mk (and_mk (and_mk (and_mk (and_mk (and_mk (and_mk (and_mk (and_mk (and_mk (and_mk (and_mk (and_mk fact0 fact1) fact2) fact3) fact4) fact5) fact6) fact7) fact8) fact9) fact10) fact11) fact12) fact13) fact14) fact15) fact16) fact17) fact18) fact19) fact20) fact21) fact22) fact23) fact24) fact25) fact26) fact27) fact28) fact29) fact30) fact31)
theorem inst : Tryz.f7.isInstance Tryz.prog Rows.fnSignRow.origin Rows.fnSignRow.targs := of_decide_eq_true (by kernel_rfl)
theorem wrap : Tryz.f7.isWrapper Tryz.prog Rows.fnSignRow.wrapper Rows.fnSignRow.mainSum := by unfold Func.isWrapper; rw [if_neg (by decide +kernel)]; exact ⟨rfl, rfl⟩
set_option maxRecDepth 100000 in
theorem said : Rows.FnSignSaid :=
  OpenClaim.holds_of_cond 7 Tryz.f7 rfl rfl rfl rfl rfl rfl rfl ⟨rfl, rfl, rfl, rfl, rfl⟩ rfl rfl rfl rfl rfl named Tryz.func7 facts
    inst wrap
    (fun os started H enc _ F => by rw [OpenClaim.pre_eq_preRow]; exact lifted os started H enc F)
theorem plain (f : FuncId) (fn : Func) (hf : Tryz.pinned.checked.prog.funcNamed "pub-caravanserai/laws.FnSign" = some f) (hfn : Tryz.pinned.checked.prog.funcs[f]? = some fn) :
    true = Tryz.pinned.checked.prog.looks [] ∧ ∀ (j : Nat) t, fn.params[j]? = some t → Tryz.pinned.checked.prog.wantsStandIn t = false := by
  obtain rfl : f = 7 := Option.some.inj (named.symm.trans hf) |>.symm
  obtain rfl : fn = Tryz.f7 := (Option.some.inj (Tryz.func7.symm.trans hfn)).symm
  refine ⟨HeadRow.looks, fun j t ht => ?_⟩
  rw [Tryz.params7] at ht
  have hm : t ∈ (#[9, 61, 61, 9, 9] : Array TypeId) := Array.mem_of_getElem? ht
  have key : (#[9, 61, 61, 9, 9] : Array TypeId).all (fun t => Tryz.prog.wantsStandIn t == false) = true := by kernel_rfl
  exact beq_iff_eq.1 (Array.all_eq_true'.1 key t hm)
theorem wfText : Rows.fnSignRow.wfByText (OpenSpec.ofChange Rows.fnSignSpec) = true := by kernel_rfl
theorem goes : false = Rows.fnSignRow.goesBy Tryz.prog := by kernel_rfl
set_option maxRecDepth 100000 in
theorem card : Rows.FnSignCardSaid :=
  Claim7.holds_tied_plain_at .later [] _ _ (true, _) _ said (fun _ h => by cases h) wfText (fun _ h => by cases h) fnSign_row_tie rfl ⟨rfl, rfl⟩ (HeadRow.main.trans (by rfl)) rfl plain goes
end Go.Proofs.YtgoeiflddikihaaGreatDoor.fnSign
namespace Go.Proofs.YtgoeiflddikihaaGreatDoor
theorem fnSign_holds : Rows.FnSignCardSaid := fnSign.card
end Go.Proofs.YtgoeiflddikihaaGreatDoor
