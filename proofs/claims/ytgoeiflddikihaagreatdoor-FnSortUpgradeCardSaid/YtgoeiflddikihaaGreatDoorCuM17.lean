/- Merged by program out of: SpecF, SortQ, SortR, SortU, Opens3. -/
import Derived.Test.YtgoeiflddikihaaGreatDoorCuM16
import Derived.Test.YtgoeiflddikihaaGreatDoorCuM6
import Derived.Test.YtgoeiflddikihaaGreatDoorCuM5
import Derived.Test.YtgoeiflddikihaaGreatDoorCuM12
import Derived.Test.YtgoeiflddikihaaGreatDoorCuM2
import Derived.Test.YtgoeiflddikihaaGreatDoorCuM3
section
namespace Go.Proofs.YtgoeiflddikihaaGreatDoor.Ver
set_option linter.unusedSimpArgs false
set_option linter.unusedVariables false
open Go.Sort Go.RowKit Go.Proofs.YtgoeiflddikihaaGreatDoor.Dig Go.Proofs.YtgoeiflddikihaaGreatDoorW.PrintWords Go.Proofs.YtgoeiflddikihaaGreatDoor.Mem Go.Proofs.YtgoeiflddikihaaGreatDoor.Ord Go.Proofs.YtgoeiflddikihaaGreatDoor.Ins Go.Proofs.YtgoeiflddikihaaGreatDoor.PFnVersion
instance : ZeroC Tryz.prog 30 #[.int .i64 0, .string ⟨#[]⟩, .string ⟨#[]⟩] := ⟨by kernel_rfl⟩
def cmpD (down : Bool) (x y : S30) : Int := versC down (verV x.f0 x.f1 x.f2) (verV y.f0 y.f1 y.f2)
def keepD (paired : Bool) (x : S30) : Bool := !(paired && x.f2.toList.isEmpty)
def SvEnd (R : Option (List S30)) (w : World) (e : Ending) (w' : World) : Prop := match R with
  | none => e = .returned (.tuple #[.slice none 0 0, .bool false]) ∧ RowKit.Below w.heap.size w w'
  | some L => ∃ v X, e = .returned (.tuple #[v, .bool true]) ∧ VOk L v X ∧ Blks w w' X
theorem keep_false {paired : Bool} {x : S30} (h : keepD paired x = false) : paired = true ∧ x.f2.toList.isEmpty = true := by
  unfold keepD at h; simpa using h
theorem keep_true {paired : Bool} {x : S30} (h : keepD paired x = true) : paired = false ∨ paired = true ∧ x.f2.toList.isEmpty = false := by
  unfold keepD at h; cases paired <;> simp at h ⊢; simpa using h
theorem ins_skip {c : S30 → S30 → Int} {p : S30 → Bool} {D out : List S30} {k : Nat} (hk : k < D.length) (hp : p D[k] = false) : insAll c ((D.drop k).filter p) out = insAll c ((D.drop (k + 1)).filter p) out := by
  rw [List.drop_eq_getElem_cons hk, List.filter_cons_of_neg (by rw [hp]; decide)]
def insNext (c : S30 → S30 → Int) (rest out : List S30) (v : S30) : Option Nat → Option (List S30)
  | none => none
  | some m => insAll c rest (out.take m ++ v :: out.drop m)
theorem ins_take {c : S30 → S30 → Int} {p : S30 → Bool} {D out : List S30} {k : Nat} (hk : k < D.length) (hp : p D[k] = true) : insAll c ((D.drop k).filter p) out = insNext c ((D.drop (k + 1)).filter p) out D[k] (scan c D[k] out out.length out.length) := by
  rw [List.drop_eq_getElem_cons hk, List.filter_cons_of_pos hp, insAll]
  unfold insNext
  split <;> simp_all
theorem ins_end {c : S30 → S30 → Int} {p : S30 → Bool} {D out : List S30} {k : Nat} (hk : D.length ≤ k) : insAll c ((D.drop k).filter p) out = some out := by
  rw [List.drop_eq_nil_of_le hk]; rfl
theorem scan_at {c : S30 → S30 → Int} {v : S30} {out : List S30} {j k : Nat} (hj : j < out.length) : scan c v out (j + 1) k = if c v out[j] = 0 then none else if c v out[j] < 0 then scan c v out j j else scan c v out j k := by
  rw [scan, List.getElem?_eq_getElem hj]
set_option maxRecDepth 20000 in
set_option maxHeartbeats 8000000 in
theorem sv_any (D : List S30) (vl : Value) (XD : List Blk) (down paired : Bool) (w : World) (hl : D.length ≤ 100) (hD : VOk D vl XD) (hX : ∀ z ∈ XD, w.heap[z.1]? = some (.cells z.2.1.toArray z.2.2 (0, 0)))
    (hr : ∀ x ∈ D, (0 ≤ x.f0 ∧ x.f0 ≤ 3) ∧ x.f1.size ≤ 100000) :
    Calls Tryz.prog 42 #[vl, .bool down, .bool paired] w (SvEnd (insAll (cmpD down) (D.filter (keepD paired)) []) w) := by
  have hcell : D ≠ [] → ∃ g cap, vl = .slice (some ⟨g, 0, none⟩) D.length cap ∧ g < w.heap.size ∧ ∀ j (hj : j < D.length), w.cell? ⟨g, j * 3, none⟩ = some (.int .i64 D[j].f0) ∧ w.cell? ⟨g, j * 3 + 1, none⟩ = some (.string D[j].f1) ∧ w.cell? ⟨g, j * 3 + 2, none⟩ = some (.string D[j].f2) := by
    intro hne
    rcases hD with ⟨_, rfl, _⟩ | ⟨g, cap, rest, rfl, h, _, rfl⟩
    · exact absurd rfl hne
    · have hb := hX _ (List.mem_singleton.2 rfl)
      refine ⟨g, cap, rfl, hlt hb, fun j hj => ?_⟩
      have key : ∀ i u, (flat3 D)[i]? = some u → w.cell? ⟨g, i, none⟩ = some u := by
        intro i u hu
        rw [cell_of_row w g i _ _ (0, 0) hb, ← Array.getElem?_toList]
        have : i < (flat3 D).length := (List.getElem?_eq_some_iff.1 hu).1
        rw [List.getElem?_append_left this]; exact hu
      obtain ⟨h0, h1, h2⟩ := flat3_at D j hj
      exact ⟨key _ _ h0, key _ _ h1, key _ _ h2⟩
  obtain ⟨AD, cD, rfl, _⟩ := hD.val
  have HCD := Lib.hid hcell
  have HRT := Lib.hid hr
  clear hcell hD hX hr
  obtain ⟨n, hn⟩ : ∃ n, D.length = n := ⟨_, rfl⟩
  obtain ⟨R, hR⟩ : ∃ R, R = insAll (cmpD down) (D.filter (keepD paired)) [] := ⟨_, rfl⟩
  rw [← hR]
  have HN := Lib.hid hn
  have HR := Lib.hid hR
  rw [hn] at hl
  clear hn hR
  have hvl : ∃ v, v = Value.slice AD D.length cD := ⟨_, rfl⟩
  rw [HN.out]
  clear hvl
  go_enter Tryz.func42, Tryz.ntmps42
  go_wp2_with fail
  go_loopw [8, 16] (fun v8 v16 wr => ∃ (k : Nat) (out : List S30) (X : List Blk), v16 = .int .i64 k ∧ k ≤ n ∧ out.length ≤ k ∧ Aside0 (VOk out v8 X) ∧ Aside0 (R = insAll (cmpD down) ((D.drop k).filter (keepD paired)) out) ∧ Aside0 (∀ y ∈ out, y ∈ D) ∧ Aside0 (Blks w wr X)) (fun _ v16 _ => n - (intOf v16).toNat)
  case atStart => exact ⟨0, [], [], rfl, Nat.zero_le _, Nat.le_refl _, ⟨Or.inl ⟨rfl, rfl, rfl⟩⟩, ⟨by rw [List.drop_zero]; exact HR.out⟩, ⟨fun y hy => by cases hy⟩, ⟨Blks.start w⟩⟩
  case round =>
    clear HR
    obtain ⟨k, out, X, rfl, hk, ho, HV, HR, HXM0, HM⟩ := hrel
    by_cases hlt : k < n
    · have d1 : decide ((k : Int) < (n : Int)) = true := decide_eq_true (by omega)
      have d2 : decide (k < n) = true := decide_eq_true hlt
      have HLT := Lib.hid (show k < D.length by rw [HN.out]; exact hlt)
      obtain ⟨gD, cDD, eD, hgD, hcD⟩ := HCD.out (by intro e; have := HLT.out; rw [e] at this; cases this)
      obtain ⟨rfl, _⟩ : AD = some ⟨gD, 0, none⟩ ∧ True := ⟨(Value.slice.inj eD).1, trivial⟩
      obtain ⟨c0, c1, c2⟩ := hcD k HLT.out
      replace c0 := (HM.out.bel.cell (p := ⟨gD, k * 3, none⟩) hgD).trans c0
      replace c1 := (HM.out.bel.cell (p := ⟨gD, k * 3 + 1, none⟩) hgD).trans c1
      replace c2 := (HM.out.bel.cell (p := ⟨gD, k * 3 + 2, none⟩) hgD).trans c2
      have HRX := Lib.hid (HRT.out D[k] (List.getElem_mem HLT.out))
      clear eD hcD
      have HGD := Lib.hid hgD
      clear hgD
      cases hp : keepD paired D[k] with
      | false =>
        have HR2 := Aside0.mk (HR.out.trans (ins_skip HLT.out hp))
        obtain ⟨rfl, he⟩ := keep_false hp
        clear HR hp
        generalize D[k] = x at *
        obtain ⟨xa, xt, xr⟩ := x
        dsimp only at c0 c1 c2 he
        go_upto_region 5 with (first | (refine m_alloc (by repeat (first | exact HM.out | apply Blks.drewN | apply Blks.drew | apply Blks.other)) (h := ?_); intro bv wq HN; clear HM; have HM := HN; clear HN) | (refine m_store (by repeat (first | exact HM.out | apply Blks.drewN | apply Blks.drew | apply Blks.other)) (h := ?_); intro wq HN; clear HM; have HM := HN; clear HN))
        have kv0 := Blks.cell HM.out (b := bv) (o := 0) (by repeat (first | exact List.Mem.head _ | apply List.Mem.tail)) (by repeat (first | exact Rd.nil | apply Rd.here | apply Rd.skip)); have kv1 := Blks.cell HM.out (b := bv) (o := 1) (by repeat (first | exact List.Mem.head _ | apply List.Mem.tail)) (by repeat (first | exact Rd.nil | apply Rd.here | apply Rd.skip)); have kv2 := Blks.cell HM.out (b := bv) (o := 2) (by repeat (first | exact List.Mem.head _ | apply List.Mem.tail)) (by repeat (first | exact Rd.nil | apply Rd.here | apply Rd.skip))
        go_wp2_with fail
        go_roundw
        case rel => exact ⟨k + 1, out, X, by go_num, by omega, by omega, HV, HR2, HXM0, ⟨HM.out.less (List.Sublist.cons _ (List.Sublist.refl _))⟩⟩
        case measure => simp [intOf]; omega
      | true =>
        have HR2 := Lib.hid (HR.out.trans (ins_take HLT.out hp))
        have hkt := keep_true hp
        have hxm := HXM0.out
        have HXX := Lib.hid (List.getElem_mem HLT.out)
        clear HXM0
        have HVO := Lib.hid (fun (y : S30) (hy : (0 ≤ y.f0 ∧ y.f0 ≤ 3) ∧ y.f1.size ≤ 100000) W => ver_order D[k].f0 y.f0 D[k].f1 D[k].f2 y.f1 y.f2 down HRX.out.1 hy.1 HRX.out.2 hy.2 W)
        clear HR hp
        generalize D[k] = x at *
        clear HLT
        obtain ⟨xa, xt, xr⟩ := x
        dsimp only at c0 c1 c2 hkt HVO
        have HXM := Lib.hid hxm
        clear hxm
        go_upto_region 5 with (first | (refine m_alloc (by repeat (first | exact HM.out | apply Blks.drewN | apply Blks.drew | apply Blks.other)) (h := ?_); intro bv wq HN; clear HM; have HM := HN; clear HN) | (refine m_store (by repeat (first | exact HM.out | apply Blks.drewN | apply Blks.drew | apply Blks.other)) (h := ?_); intro wq HN; clear HM; have HM := HN; clear HN))
        go_simp
        go_cut [25] from 20 to 25 (fun v25 wx => v25 = .bool false ∧ Aside0 (Blks w wx ((bv, [.int .i64 xa, .string xt, .string xr], 30) :: X)))
        case first =>
          have kv0 := Blks.cell HM.out (b := bv) (o := 0) (by repeat (first | exact List.Mem.head _ | apply List.Mem.tail)) (by repeat (first | exact Rd.nil | apply Rd.here | apply Rd.skip)); have kv1 := Blks.cell HM.out (b := bv) (o := 1) (by repeat (first | exact List.Mem.head _ | apply List.Mem.tail)) (by repeat (first | exact Rd.nil | apply Rd.here | apply Rd.skip)); have kv2 := Blks.cell HM.out (b := bv) (o := 2) (by repeat (first | exact List.Mem.head _ | apply List.Mem.tail)) (by repeat (first | exact Rd.nil | apply Rd.here | apply Rd.skip))
          rcases hkt with rfl | ⟨rfl, he⟩
          · go_wp2_with fail
            go_meet
            case rel => exact ⟨rfl, ⟨(by repeat (first | exact HM.out | apply Blks.drewN | apply Blks.drew | apply Blks.other))⟩⟩
          · go_wp2_with fail
            go_meet
            case rel => exact ⟨rfl, ⟨(by repeat (first | exact HM.out | apply Blks.drewN | apply Blks.drew | apply Blks.other))⟩⟩
        case rest =>
        clear HM c0 c1 c2 hkt
        obtain ⟨rfl, HM⟩ := hcut
        obtain ⟨A, cap, rfl, hoc, hcm⟩ := HV.out.val
        have HOC := Lib.hid hoc
        have HCM := Lib.hid hcm
        clear hoc hcm
        obtain ⟨m, hm⟩ : ∃ m, out.length = m := ⟨_, rfl⟩
        have HMM := Lib.hid hm
        rw [hm] at ho
        have HV2 := Aside0.mk (show VOk out (.slice A m cap) X by rw [← hm]; exact HV.out)
        rw [hm]
        clear HV hm
        obtain ⟨S, hS⟩ : ∃ S, S = scan (cmpD down) ⟨xa, xt, xr⟩ out m m := ⟨_, rfl⟩
        have HR3 := Lib.hid (show R = insNext (cmpD down) ((D.drop (k + 1)).filter (keepD paired)) out ⟨xa, xt, xr⟩ S by rw [hS, HR2.out, HMM.out])
        have HS := Lib.hid hS
        clear HR2 hS
        go_wp2_with fail
        go_loopw [11, 12] (fun v11 v12 wr2 => ∃ (z : Int) (q : Nat), v12 = .int .i64 z ∧ v11 = .int .i64 q ∧ -1 ≤ z ∧ z < (m : Int) ∧ q ≤ m ∧ Aside0 (S = scan (cmpD down) ⟨xa, xt, xr⟩ out (z + 1).toNat q) ∧ Aside0 (Blks w wr2 ((bv, [.int .i64 xa, .string xt, .string xr], 30) :: X))) (fun _ v12 _ => (intOf v12 + 1).toNat)
        case atStart => exact ⟨_, m, rfl, rfl, by omega, by omega, Nat.le_refl _, ⟨by rw [HS.out]; congr 1; omega⟩, HM⟩
        case round =>
          clear HM HS
          obtain ⟨z, q, rfl, rfl, hz1, hz2, hq, HS, HM⟩ := hrel
          have kv0 := Blks.cell HM.out (b := bv) (o := 0) (by repeat (first | exact List.Mem.head _ | apply List.Mem.tail)) (by repeat (first | exact Rd.nil | apply Rd.here | apply Rd.skip)); have kv1 := Blks.cell HM.out (b := bv) (o := 1) (by repeat (first | exact List.Mem.head _ | apply List.Mem.tail)) (by repeat (first | exact Rd.nil | apply Rd.here | apply Rd.skip)); have kv2 := Blks.cell HM.out (b := bv) (o := 2) (by repeat (first | exact List.Mem.head _ | apply List.Mem.tail)) (by repeat (first | exact Rd.nil | apply Rd.here | apply Rd.skip))
          by_cases hz : 0 ≤ z
          · obtain ⟨j, rfl⟩ : ∃ j : Nat, z = (j : Int) := ⟨z.toNat, by omega⟩
            have hjm : j < m := by omega
            have e1 : decide ((0 : Int) ≤ (j : Int)) = true := decide_eq_true hz
            have HJ := Lib.hid (show j < out.length by rw [HMM.out]; exact hjm)
            obtain ⟨gO, cO, eO, hcO⟩ := HV2.out.elem HM.out (fun y hy => List.mem_cons_of_mem _ hy) (by intro e; have := HJ.out; rw [e] at this; cases this)
            obtain ⟨rfl, _⟩ : A = some ⟨gO, 0, none⟩ ∧ True := ⟨(Value.slice.inj eO).1, trivial⟩
            obtain ⟨f0, f1, f2⟩ := hcO j HJ.out
            have HS2 := Lib.hid (HS.out.trans (show scan (cmpD down) ⟨xa, xt, xr⟩ out ((j : Int) + 1).toNat q = _ by rw [show ((j : Int) + 1).toNat = j + 1 by omega, scan_at HJ.out]))
            have HQ := Lib.hid (fun d os => Calls.regrown_of (HVO.out (out[j]'HJ.out) (HRT.out _ (HXM.out _ (List.getElem_mem HJ.out))) (grow (redrawn wr d) os)))
            clear eO hcO HS hz hz1 hz2
            generalize out[j]'HJ.out = y at *
            clear HJ
            obtain ⟨cv, hcv⟩ : ∃ cv, cv = cmpD down ⟨xa, xt, xr⟩ y := ⟨_, rfl⟩
            rw [← hcv] at HS2
            rw [show versC down (verV xa xt xr) (verV y.f0 y.f1 y.f2) = cv from hcv.symm] at HQ
            clear hcv
            go_upto_region 10 with (fail)
            have kq0 := fun d os => cell_regrown (kv0) d os
            have kq1 := fun d os => cell_regrown (kv1) d os
            have kq2 := fun d os => cell_regrown (kv2) d os
            have fq0 := fun d os => cell_regrown (f0) d os
            have fq1 := fun d os => cell_regrown (f1) d os
            have fq2 := fun d os => cell_regrown (f2) d os
            refine wp_region_quiet_below (by kernel_rfl) (by kernel_rfl) ?_
            repeat (go_big_quiet_step (exact HQ.out _ _))
            refine wpQuiet_nil ?_
            intro _ hw'
            obtain ⟨⟨dq, osq⟩, hw''⟩ := hw'
            subst hw''
            have HN := Aside0.mk (Blks.call HM.out (below_regrown _ dq osq)); clear HM; have HM := HN; clear HN
            clear kq0 kq1 kq2 fq0 fq1 fq2
            generalize grow (redrawn _ dq) osq = wz at *
            clear HQ e1
            by_cases h0 : cv = 0
            · have e2 : (cv == 0) = true := beq_iff_eq.2 h0
              have hs := HS2.out
              rw [if_pos h0] at hs
              have hr : R = none := by rw [HR3.out, hs]; rfl
              subst hr
              clear hs h0 HS2 HR3
              go_wp2_with fail
              go_ret2
              exact ⟨rfl, HM.out.bel⟩
            · have e2 : (cv == 0) = false := beq_eq_false_iff_ne.2 h0
              by_cases h1 : cv < 0
              · have e3 : decide (cv < 0) = true := decide_eq_true h1
                have HS3 := Aside0.mk (HS2.out.trans (by rw [if_neg h0, if_pos h1]))
                clear HS2 h0 h1
                go_wp2_with fail
                go_roundw
                case rel => exact ⟨(j : Int) - 1, j, by go_num, rfl, by omega, by omega, by omega, ⟨by rw [HS3.out]; congr 1; omega⟩, HM⟩
                case measure => (simp [intOf]; try omega)
              · have e3 : decide (cv < 0) = false := decide_eq_false h1
                have HS3 := Aside0.mk (HS2.out.trans (by rw [if_neg h0, if_neg h1]))
                clear HS2 h0 h1
                go_wp2_with fail
                go_roundw
                case rel => exact ⟨(j : Int) - 1, q, by go_num, rfl, by omega, by omega, by omega, ⟨by rw [HS3.out]; congr 1; omega⟩, HM⟩
                case measure => (simp [intOf]; try omega)
          · have e1 : decide ((0 : Int) ≤ z) = false := decide_eq_false hz
            obtain rfl : z = -1 := by omega
            have hs : S = some q := HS.out
            have HR4 := Aside0.mk (show R = insAll (cmpD down) ((D.drop (k + 1)).filter (keepD paired)) (out.take q ++ ⟨xa, xt, xr⟩ :: out.drop q) by rw [HR3.out, hs]; rfl)
            clear hs HS HR3 hz hz1 hz2
            go_upto_region 15 with (fail)
            have HND := Lib.hid HM.out.nd
            have hmm := HMM.out
            subst hmm
            clear HMM e1 kv0 kv1 kv2
            refine wp_region_held_drew (S := fun w' => Blks w w' ((bv, [.int .i64 xa, .string xt, .string xr], 30) :: X)) (by kernel_rfl) (by repeat (first | exact HM.out | apply Blks.drewN | apply Blks.drew | apply Blks.other)) (fun hS => ?_)
            have HN2 := Aside0.mk hS
            clear hS HM
            have HM := HN2
            clear HN2
            generalize World.drew wr = wx at *
            refine wpAnyH_take (i := 0) (v := .slice A out.length cap) rfl (by kernel_rfl) (by kernel_rfl) (by kernel_rfl) (fun _ _ _ h => h) (Or.inl ⟨by rfl, fun _ _ => rfl⟩) HM.out ?_
            (try simp only [Act.put, List.setIfInBounds_toArray, List.set_cons_zero, List.set_cons_succ])
            refine wpAnyH_take (i := 1) (v := .int .i64 (q : Int)) rfl (by kernel_rfl) (by kernel_rfl) (by kernel_rfl) (fun _ _ _ h => h) (Or.inl ⟨by rfl, fun _ _ => rfl⟩) HM.out ?_
            (try simp only [Act.put, List.setIfInBounds_toArray, List.set_cons_zero, List.set_cons_succ])
            refine wpAnyH_take (i := 2) (v := .int .i64 (q : Int)) rfl (by kernel_rfl) (by kernel_rfl) (by kernel_rfl) (fun _ _ _ h => h) (Or.inl ⟨by rfl, fun _ _ => rfl⟩) HM.out ?_
            (try simp only [Act.put, List.setIfInBounds_toArray, List.set_cons_zero, List.set_cons_succ])
            refine wpAnyH_take (i := 3) (v := .slice A q q) rfl (by kernel_rfl) (by kernel_rfl) (by kernel_rfl) (fun _ _ _ h => h) (Or.inl ⟨by rfl, fun W _ => by have hh := slice_head A out.length cap q hq HOC.out HCM.out W; go_simp⟩) HM.out ?_
            (try simp only [Act.put, List.setIfInBounds_toArray, List.set_cons_zero, List.set_cons_succ])
            refine wpAnyH_take (i := 4) (v := .agg #[.int .i64 xa, .string xt, .string xr]) rfl (by kernel_rfl) (by kernel_rfl) (by kernel_rfl) (fun _ _ _ h => h) (d_load (w0 := w) (by rfl) (by rfl) (fun w h => h) (by repeat (first | exact List.Mem.head _ | apply List.Mem.tail)) (by repeat (first | exact Rd.nil | apply Rd.here | apply Rd.skip))) HM.out ?_
            (try simp only [Act.put, List.setIfInBounds_toArray, List.set_cons_zero, List.set_cons_succ])
            refine wpAnyH_take (i := 6) (v := .slice A out.length cap) rfl (by kernel_rfl) (by kernel_rfl) (by kernel_rfl) (fun _ _ _ h => h) (Or.inl ⟨by rfl, fun _ _ => rfl⟩) HM.out ?_
            (try simp only [Act.put, List.setIfInBounds_toArray, List.set_cons_zero, List.set_cons_succ])
            refine wpAnyH_take (i := 7) (v := .int .i64 (q : Int)) rfl (by kernel_rfl) (by kernel_rfl) (by kernel_rfl) (fun _ _ _ h => h) (Or.inl ⟨by rfl, fun _ _ => rfl⟩) HM.out ?_
            (try simp only [Act.put, List.setIfInBounds_toArray, List.set_cons_zero, List.set_cons_succ])
            refine wpAnyH_take (i := 8) (v := tailV A out.length cap q) rfl (by kernel_rfl) (by kernel_rfl) (by kernel_rfl) (fun _ _ _ h => h) (Or.inl ⟨by rfl, fun W _ => by have hh := slice_tail A out.length cap q hq HOC.out HCM.out W; go_simp⟩) HM.out ?_
            (try simp only [Act.put, List.setIfInBounds_toArray, List.set_cons_zero, List.set_cons_succ])
            refine wpAnyH_ready (rs := [5]) (by kernel_rfl) (by simp) ?_
            refine AllReadyH.cons (o := ⟨some 52, .buildSlice 67 1 _, _, _, _, none⟩) rfl (fun K hK => ?_) AllReadyH.nil
            go_simp
            have HN2 := Aside0.mk (Blks.alloc HM.out #[.int .i64 xa, .string xt, .string xr] 30)
            refine hK.out _ _ (HN2.out.less (List.Sublist.cons _ (List.Sublist.refl _))) (fun _ => ?_)
            clear hK K HM
            have HM := HN2
            clear HN2
            generalize wx.heap.size = b1 at *
            generalize World.alloc wx _ = wy at *
            (try simp only [Act.put, List.setIfInBounds_toArray, List.set_cons_zero, List.set_cons_succ])
            refine wpAnyH_ready (rs := [9]) (by kernel_rfl) (by simp) ?_
            refine AllReadyH.cons (o := ⟨some 56, .call { callee := .builtin .append, args := #[.tmp 52, .tmp 55], argTypes := #[67, 67] }, _, _, _, none⟩) rfl (fun K hK => ?_) AllReadyH.nil
            refine d_app1 (x := ⟨xa, xt, xr⟩) (out := out) (b1 := b1) HM.out (List.Mem.head _) HV2.out (fun y hy => List.mem_cons_of_mem _ (List.mem_cons_of_mem _ hy)) hq (by omega) rfl rfl ?_
            intro g1 cap1 rest1 wq L2 HN2 hsub hm1
            refine hK.out _ _ (HN2.out.sub (fun y hy => hsub y (List.mem_cons_of_mem _ hy)) HND.out) (fun _ => ?_)
            clear hK K HM
            (try simp only [Act.put, List.setIfInBounds_toArray, List.set_cons_zero, List.set_cons_succ])
            refine wpAnyH_ready (rs := [10]) (by kernel_rfl) (by simp) ?_
            refine AllReadyH.cons (o := ⟨some 57, .call { callee := .builtin .append, args := #[.tmp 50, .tmp 56], argTypes := #[67, 67] }, _, _, _, none⟩) rfl (fun K hK => ?_) AllReadyH.nil
            refine d_app2 (out := out) (ys := ⟨xa, xt, xr⟩ :: out.drop q) HN2.out hm1 HV2.out (fun y hy => hsub y (List.mem_cons_of_mem _ (List.mem_cons_of_mem _ hy))) hq (by rw [List.length_cons, List.length_drop]; omega) (by omega) (by omega) (by omega) rfl rfl ?_
            intro v' wq2 L3 X' HN3 hsub3 hX' hv'
            refine hK.out _ _ (HN3.out.sub (fun y hy => hsub3 y (hsub y (List.mem_cons_of_mem _ hy))) HND.out) (fun hS3 => ?_)
            clear hK K
            (try simp only [Act.put, List.setIfInBounds_toArray, List.set_cons_zero, List.set_cons_succ])
            refine wpAnyH_take (i := 11) (v := v') rfl (by kernel_rfl) (by kernel_rfl) (by kernel_rfl) (fun _ _ _ h => h) (Or.inl ⟨by rfl, fun _ _ => rfl⟩) hS3 ?_
            (try simp only [Act.put, List.setIfInBounds_toArray, List.set_cons_zero, List.set_cons_succ])
            refine wpAnyH_done (by kernel_rfl) ?_ _
            have HV3 := Aside0.mk hv'
            have HN4 := Aside0.mk (HN3.out.sub hX' hv'.nodup)
            have HXM2 := Aside0.mk (show ∀ y ∈ out.take q ++ ⟨xa, xt, xr⟩ :: out.drop q, y ∈ D from fun y hy => by
              rcases List.mem_append.1 hy with h | h
              · exact HXM.out y (List.mem_of_mem_take h)
              · rcases List.mem_cons.1 h with rfl | h
                · exact HXX.out
                · exact HXM.out y (List.mem_of_mem_drop h))
            have HLN := Lib.hid (show (out.take q ++ ⟨xa, xt, xr⟩ :: out.drop q).length ≤ k + 1 by rw [List.length_append, List.length_take, List.length_cons, List.length_drop]; omega)
            clear HN3 hX' hv' hsub3 hsub hm1 HN2 hS3
            go_wp2_with fail
            go_roundw
            case rel => exact ⟨k + 1, _, X', by go_num, by omega, HLN.out, HV3, HR4, HXM2, HN4⟩
            case measure => (simp [intOf]; omega)
    · have d1 : decide ((k : Int) < (n : Int)) = false := decide_eq_false (by omega)
      have d2 : decide (k < n) = false := decide_eq_false hlt
      have hr := HR.out.trans (ins_end (by rw [HN.out]; omega))
      subst hr
      clear HR
      go_wp2_with fail
      go_ret2
      exact ⟨_, X, rfl, HV.out, HM.out⟩
end Go.Proofs.YtgoeiflddikihaaGreatDoor.Ver
end
section
namespace Go.Proofs.YtgoeiflddikihaaGreatDoor.Ver
set_option linter.unusedSimpArgs false
set_option linter.unusedVariables false
open Go.RowKit Go.Proofs.YtgoeiflddikihaaGreatDoor.PFnVersion Go.Proofs.YtgoeiflddikihaaGreatDoorW.PrintWords Go.Proofs.YtgoeiflddikihaaGreatDoor.Mem Go.Proofs.YtgoeiflddikihaaGreatDoor.Srt Go.Proofs.YtgoeiflddikihaaGreatDoor.Ord Go.Proofs.YtgoeiflddikihaaGreatDoor.Ins Go.Sort
def c27 (x : S27) : List Value := [.int .i64 x.f0, .string x.f1, .string x.f2]
def flat27 (l : List S27) : List Value := l.flatMap c27
theorem flat27_len (l : List S27) : (flat27 l).length = l.length * 3 := by
  induction l with
  | nil => rfl
  | cons x l ih => show (c27 x ++ flat27 l).length = _; rw [List.length_append, ih, List.length_cons]; show 3 + _ = _; omega
theorem flat27_to (l : List S27) : flat27 l = flat3 (l.map to30) := by
  induction l with
  | nil => rfl
  | cons x l ih => show c27 x ++ flat27 l = c3 (to30 x) ++ flat3 (l.map to30); rw [ih]; rfl
theorem flat27_one : ∀ l : List S27, ∀ u ∈ flat27 l, u.oneCell' = true := by
  intro l u hu
  unfold flat27 at hu
  obtain ⟨x, _, hx⟩ := List.mem_flatMap.1 hu
  simp [c27] at hx
  rcases hx with rfl | rfl | rfl <;> rfl
theorem reps27 (w : World) (base : Nat) (ok : Nat → Prop) : ∀ l : List S27, Reps (k27.M w base ok) 3 l (flat27 l)
  | [] => Reps.none _ _
  | x :: l => Reps.c3 (k27_mkM w base ok x) (reps27 w base ok l)
theorem reps_eq {α : Type} {R : α → List Value → Prop} {f : α → List Value} (hf : ∀ x cs, R x cs → cs = f x) : ∀ (l : List α) (cs : List Value), Reps R 3 l cs → cs = l.flatMap f
  | [], cs, h => by
    have := h.1
    simp at this
    rw [this]; rfl
  | x :: l, cs, h => by
    have h0 := hf _ _ (h.2 0 x rfl)
    have e := reps_eq hf l (cs.drop 3) ⟨by rw [List.length_drop, h.1, List.length_cons]; omega, fun j p hj => by
      have := h.2 (j + 1) p (by simpa using hj)
      rw [List.drop_drop]
      rwa [show (j + 1) * 3 = 3 + j * 3 by omega] at this⟩
    rw [List.flatMap_cons, ← e, ← h0]
    simp
theorem row27 {w : World} {base n : Nat} {v : Value} {l : List S27} (hn : l.length = n) (h : w.ownsRow base 27 3 v n (flat27 l)) : ∃ A c, v = .slice A l.length c ∧ l.length ≤ c ∧ Kd.C k27 w A l.length l := by
  subst hn
  exact Kd.R_reads (e := 27) (base := base) (ok := fun _ => True) ⟨fun _ _ => trivial, _, h, reps27 w base _ l⟩
theorem vok_c {out : List S30} {v : Value} {X L : List Blk} {w0 w : World} (h : VOk out v X) (H : Blks w0 w L) (hs : ∀ x ∈ X, x ∈ L) : ∃ A c, v = .slice A out.length c ∧ out.length ≤ c ∧ Kd.C k30 w A out.length out := by
  by_cases hne : out = []
  · obtain ⟨A, c, e, h1, _⟩ := h.val
    subst hne
    exact ⟨A, c, e, h1, rfl, by simp, fun h => by simp at h⟩
  · obtain ⟨g, cap, e, hc⟩ := h.elem H hs hne
    obtain ⟨A, c, e2, h1, h2⟩ := h.val
    rw [e] at e2
    injection e2 with e3 e4 e5
    subst e5
    refine ⟨_, cap, e, h1, rfl, by unfold maxLen at h2; omega, fun _ => ⟨_, rfl, fun j p hj => ?_⟩⟩
    obtain ⟨hj', rfl⟩ := List.getElem?_eq_some_iff.1 hj
    obtain ⟨c0, c1, c2⟩ := hc j hj'
    refine ⟨_, rfl, k30_mk w out[j], fun i u hu => ?_⟩
    match i, hu with
    | 0, hu => simp at hu; subst hu; rw [add_plain]; exact c0
    | 1, hu => simp at hu; subst hu; rw [add_plain]; exact c1
    | 2, hu => simp at hu; subst hu; rw [add_plain]; exact c2
    | i + 3, hu => simp at hu
theorem vok_of {w0 w : World} {ok : Nat → Prop} {v : Value} {out : List S30} (h : Kd.R k30 30 w w0.heap.size ok v out) (hb : Below w0.heap.size w0 w) : ∃ X, VOk out v X ∧ Blks w0 w X := by
  obtain ⟨_, inner, ho, hr⟩ := h
  have e : inner = flat3 out := reps_eq (fun x cs hx => by rw [k30_openM hx]; rfl) _ _ hr
  subst e
  rcases ho.2 with ⟨rfl, h0⟩ | ⟨g, cap, cur, rfl, hg, hc, h1, h2, h3, ht⟩
  · exact ⟨[], Or.inl ⟨rfl, List.length_eq_zero_iff.1 h0, rfl⟩, hb, by simp, by simp, by simp⟩
  · have hd : Kd.sz k30 = 3 := rfl
    have e1 : cur.toList = flat3 out ++ cur.toList.drop (out.length * 3) := by rw [← ht, hd, List.take_append_drop]
    refine ⟨[(g, flat3 out ++ cur.toList.drop (out.length * 3), 30)], Or.inr ⟨g, cap, _, rfl, h1, h2, rfl⟩, hb, ?_, ?_, by simp⟩
    · intro x hx
      obtain rfl := List.mem_singleton.1 hx
      show w.heap[g]? = some (.cells (flat3 out ++ cur.toList.drop (out.length * 3)).toArray _ _)
      rw [← e1]; simpa using hc
    · intro x hx
      obtain rfl := List.mem_singleton.1 hx
      exact hg
theorem nil27 (A : Option Addr) (c : Nat) (w : World) : (Builtin.append_ #[23, 23] 23 #[.slice none 0 0, .slice A 0 c]).run Tryz.prog w = .ok (.slice none 0 0) w := by
  cases A <;> kernel_rfl
theorem app27 (A : Option Addr) (c : Nat) (l : List S27) (w : World) (h : Kd.C k27 w A l.length l) (hl : l.length ≤ 1000000) :
    ∃ v' w', (Builtin.append_ #[23, 23] 23 #[.slice none 0 0, .slice A l.length c]).run Tryz.prog w = .ok v' w' ∧ w'.ownsRow w.heap.size 27 3 v' l.length (flat27 l) ∧ RowKit.Below w.heap.size w w' := by
  by_cases hne : l.length = 0
  · obtain rfl := List.length_eq_zero_iff.1 hne
    exact ⟨_, _, nil27 A c w, World.ownsRow_nil _ _ _ _, RowKit.Below.refl _ _⟩
  · obtain ⟨ad, rfl, _⟩ := h.2.2 (by omega)
    obtain ⟨inner, hr, hc⟩ := ReadsRow.inner_ h
    have e : inner = flat27 l := reps_eq (fun x cs hx => k27_open hx) _ _ hr
    subst e
    obtain ⟨i, hi, hz0, hz1, hz2⟩ := info_parts infoV
    obtain ⟨v', w', h1, h2, h3, _⟩ := run_append_own (P := Tryz.prog) w w.heap.size 23 23 27 i _ 3 40 Tryz.underlying23 hi hz0 hz1 hz2 rfl (by decide) (.slice none 0 0) 0 [] (World.ownsRow_nil _ _ _ _)
      ad l.length c (flat27 l) (flat27_len l) hc (flat27_one l) (by unfold maxLen; omega) (by omega) (Nat.le_refl _)
    rw [Nat.zero_add] at h2
    exact ⟨v', w', h1, h2, pw_below_grown (RowKit.Below.refl _ _) none (Nat.le_refl _) h3 (fun k hk => by cases hk)⟩
theorem to_flat (l : List S27) (j : Nat) (h : j < l.length) : (flat27 l)[j * 3]? = some (.int .i64 l[j].f0) ∧ (flat27 l)[j * 3 + 1]? = some (.string l[j].f1) ∧ (flat27 l)[j * 3 + 2]? = some (.string l[j].f2) := by
  have e := flat27_to l
  have hj : j < (l.map to30).length := by rw [List.length_map]; exact h
  have := flat3_at (l.map to30) j hj
  rw [List.getElem_map] at this
  rw [e]; exact this
def vds (l : List S27) (hr : ∀ x ∈ l, x.f1.size ≤ 2147483647) : List VD := l.pmap (fun x h => ⟨x.f0, x.f1, x.f2, h⟩) hr
theorem at27 {w : World} {base : Nat} {v : Value} {l : List S27} (hr : ∀ x ∈ l, x.f1.size ≤ 2147483647) (h : w.ownsRow base 27 3 v l.length (flat27 l)) : AtV w v (vds l hr) := by
  have hlen : (vds l hr).length = l.length := by simp [vds]
  by_cases hne : l.length = 0
  · obtain ⟨A, c, e, _⟩ := row27 rfl h
    exact ⟨A, c, by rw [hlen]; exact e, fun h => by rw [hlen] at h; omega⟩
  · obtain ⟨g, cap, cells, rest, rfl, _, hc, hl, _⟩ := row_block h (by omega)
    refine ⟨_, cap, by rw [hlen], fun _ => ⟨g, 0, rfl, fun i hi => ?_⟩⟩
    have hi' : i < l.length := by rw [← hlen]; exact hi
    have e : (vds l hr)[i] = ⟨l[i].f0, l[i].f1, l[i].f2, hr _ (List.getElem_mem hi')⟩ := by simp [vds, List.getElem_pmap]
    rw [e]
    have hf := to_flat l i hi'
    have key : ∀ j u, (flat27 l)[j]? = some u → w.cell? ⟨g, j, none⟩ = some u := by
      intro j u hu
      rw [cell_of_row w g j _ _ (0, 0) hc, ← Array.getElem?_toList, hl]
      rw [List.getElem?_append_left (List.getElem?_eq_some_iff.1 hu).1]; exact hu
    rw [Nat.zero_add]
    exact ⟨key _ _ hf.1, key _ _ hf.2.1, key _ _ hf.2.2⟩
end Go.Proofs.YtgoeiflddikihaaGreatDoor.Ver
end
section
namespace Go.Proofs.YtgoeiflddikihaaGreatDoor.Ver
set_option linter.unusedSimpArgs false
set_option linter.unusedVariables false
open Go.RowKit Go.Proofs.YtgoeiflddikihaaGreatDoor.Dig Go.Proofs.YtgoeiflddikihaaGreatDoor.PFnVersion Go.Proofs.YtgoeiflddikihaaGreatDoorW.PrintWords Go.Proofs.YtgoeiflddikihaaGreatDoor.Mem Go.Proofs.YtgoeiflddikihaaGreatDoor.Srt Go.Proofs.YtgoeiflddikihaaGreatDoor.Ord Go.Proofs.YtgoeiflddikihaaGreatDoor.Ins Go.Sort
def s27 : Vers → S27
  | .rev s => ⟨0, s, ⟨#[]⟩⟩
  | .un u => ⟨u.kind, u.word, ⟨#[]⟩⟩
  | .pair u r => ⟨u.kind, u.word, r⟩
theorem back_cells (v : Vers) : (backV v).cells.toList = c27 (s27 v) := by cases v <;> rfl
theorem newV_word {t : ByteArray} (ht : t.size ≤ 2147483647) : (newV t).word = t ∧ (newV t).kind = 3 := by
  unfold newV
  cases h : readV t with
  | none => exact ⟨rfl, rfl⟩
  | some p => exact ⟨(readV_ok' ht h).2, rfl⟩
theorem s27_ver {k : Int} {t r : ByteArray} (h : RightV k t r) : s27 (verV k t r) = ⟨k, t, r⟩ := by
  have ht : t.size ≤ 2147483647 := by have := h.t60; omega
  obtain ⟨w1, w2⟩ := newV_word ht
  have h0 := h.k0
  have h3 := h.k3
  have hk : k = 0 ∨ k = 1 ∨ k = 2 ∨ k = 3 := by omega
  rcases hk with rfl | rfl | rfl | rfl
  · obtain rfl := h.rk rfl
    rfl
  all_goals
    unfold verV
    by_cases hr : r = ⟨#[]⟩
    · subst hr
      first | (simp [unpV, s27, w1, w2]; done) | simp [unpV, s27, Unp.kind, Unp.word]
    · first | (simp [unpV, hr, s27, w1, w2]; done) | simp [unpV, hr, s27, Unp.kind, Unp.word]
abbrev AllRight (l : List S27) : Prop := ∀ x ∈ l, RightV x.f0 x.f1 x.f2
theorem AllRight.size {l : List S27} (h : AllRight l) : ∀ x ∈ l, x.f1.size ≤ 2147483647 := fun x hx => by have := (h x hx).t60; omega
theorem cmp_ordered (down : Bool) : Ordered (cmpD down) where
  anti a b := (cmp_vers down).anti _ _
  lt_trans a b d h1 h2 := (cmp_vers down).lt_le h1 (Int.le_of_lt h2)
def PsEnd (down : Bool) (l : List S27) (w : World) (e : Ending) (w' : World) : Prop :=
  ∃ x L, e = .returned x ∧ L.Perm l ∧ (L.map to30).Pairwise (fun a b => ¬ cmpD down b a < 0) ∧ w'.ownsRow w.heap.size 27 3 x L.length (flat27 L) ∧ RowKit.Below w.heap.size w w'
theorem ps_end {down : Bool} {l : List S27} (hr : AllRight l) {w : World} {e : Ending} {w' : World} (h : SortedEnd down ((vds l hr.size).map VD.ver).toArray w e w') : PsEnd down l w e w' := by
  obtain ⟨x, d', rfl, hp, hso, ho, hb⟩ := h
  have hlen : (vds l hr.size).length = l.length := by simp [vds]
  have hsz : d'.size = ((vds l hr.size).map VD.ver).toArray.size := hp.1
  have hn : ((vds l hr.size).map VD.ver).toArray.size = l.length := by simp [hlen]
  have hpl := perm_list hp
  have hD : ((vds l hr.size).map VD.ver).map (fun a : VS => s27 a.1) = l := by
    refine List.ext_getElem (by simp [hlen]) fun i h1 h2 => ?_
    have h3 : RightV l[i].f0 l[i].f1 l[i].f2 := hr _ (List.getElem_mem h2)
    have e : (vds l hr.size)[i]'(by rw [hlen]; exact h2) = ⟨l[i].f0, l[i].f1, l[i].f2, hr.size _ (List.getElem_mem h2)⟩ := by simp [vds, List.getElem_pmap]
    rw [List.getElem_map, List.getElem_map, e]
    exact s27_ver h3
  have hmem : ∀ a ∈ d'.toList, verV (s27 a.1).f0 (s27 a.1).f1 (s27 a.1).f2 = a.1 := by
    intro a ha
    have h1 := hpl.subset ha
    have h2 : a ∈ (vds l hr.size).map VD.ver := by simpa using h1
    obtain ⟨y, hy, rfl⟩ := List.mem_map.1 h2
    obtain ⟨z, hz, rfl⟩ := List.mem_pmap.1 hy
    show verV (s27 (verV z.f0 z.f1 z.f2)).f0 (s27 (verV z.f0 z.f1 z.f2)).f1 (s27 (verV z.f0 z.f1 z.f2)).f2 = verV z.f0 z.f1 z.f2
    rw [s27_ver (hr z hz)]
  refine ⟨x, d'.toList.map fun a => s27 a.1, rfl, ?_, ?_, ?_, hb⟩
  · have := hpl.map (fun a : VS => s27 a.1)
    have e2 : ((vds l hr.size).map VD.ver).toArray.toList = (vds l hr.size).map VD.ver := by simp
    rw [e2, hD] at this
    exact this
  · have h1 := sorted_list hsz hso
    rw [List.pairwise_map, List.pairwise_map]
    refine h1.imp_of_mem fun {a b} ha hb h => ?_
    unfold ltV lessV at h
    show ¬ versC down (verV (s27 b.1).f0 (s27 b.1).f1 (s27 b.1).f2) (verV (s27 a.1).f0 (s27 a.1).f1 (s27 a.1).f2) < 0
    rw [hmem a ha, hmem b hb]
    exact of_decide_eq_false h
  · have e1 : flat27 (d'.toList.map fun a => s27 a.1) = d'.toList.flatMap fun a => (backV a.1).cells.toList := by
      unfold flat27
      rw [List.flatMap_map]
      congr 1
      funext a
      rw [back_cells]
    rw [e1, List.length_map, Array.length_toList, hsz]
    exact ho
theorem psort (down : Bool) (l : List S27) (hr : AllRight l) (hl : l.length < 50) (v : Value) (base : Nat) (w : World) (hv : Vars w) (ho : w.ownsRow base 27 3 v l.length (flat27 l)) :
    Calls Tryz.prog 37 #[v, .bool down, .bool false] w (PsEnd down l w) := by
  have hA := at27 hr.size ho
  have hlen : (vds l hr.size).length = l.length := by simp [vds]
  by_cases hne : l = []
  · subst hne
    obtain ⟨A, c, rfl, _⟩ := row27 rfl ho
    cases down
    · exact (sorted0_up A c w).mono fun e w' h => ps_end hr h
    · exact (sorted0_dn A c w).mono fun e w' h => ps_end hr h
  · have h0 : 0 < l.length := List.length_pos_iff.2 hne
    cases down
    · exact (sortedW_up (vds l hr.size) (by rw [hlen]; omega) v w hv hA).mono fun e w' h => ps_end hr h
    · exact (sortedW_dn (vds l hr.size) (by rw [hlen]; omega) v w hv hA).mono fun e w' h => ps_end hr h
theorem wpList_app_run {P : Program} {ops : Array Oper} {rest : List Oper} {o : Oper} {a : Act} {w : World} {Q : Exit → Act → World → Prop} {s x : Operand} {t : TypeId}
    (ho : o.op = .call { callee := .builtin .append, args := #[s, x], argTypes := #[t, t] }) {sv xv v' : Value} {w' : World} (hs : a.eval s = sv) (hx : a.eval x = xv)
    (hrun : (Builtin.append_ #[t, t] o.type #[sv, xv]).run P w = .ok v' w') (hw : Region.wanted o (yielded ops a.tmps) = true) (h : wpList P ops Q rest (a.put o.dst v') w') : wpList P ops Q (o :: rest) a w := by
  refine wpList_step fun K hK => ?_
  rw [if_pos hw]
  unfold Oper.wp execOp
  simp only [ho, resolve, invoke, builtin, Sem.run_bind, Sem.run_pure, Result.andThen_ok, List.map_toArray, List.map_cons, List.map_nil, hs, hx, hrun]
  exact hK _ _ h
theorem want_eq {down : Bool} {l L : List S27} {R : List S30} (hi : insAll (cmpD down) (l.map to30) [] = some R) (hp : L.Perm l) (hs : (L.map to30).Pairwise (fun a b => ¬ cmpD down b a < 0)) : L.map to30 = R := by
  obtain ⟨h1, h2⟩ := insAll_sorted (cmp_ordered down) (l.map to30) [] R List.Pairwise.nil hi
  rw [List.append_nil] at h2
  exact sorted_eq (cmp_ordered down) h1 hs ((hp.map to30).trans h2.symm)
end Go.Proofs.YtgoeiflddikihaaGreatDoor.Ver
end
section
namespace Go.Proofs.YtgoeiflddikihaaGreatDoor.Ver
set_option linter.unusedSimpArgs false
set_option linter.unusedVariables false
open Go.RowKit Go.Proofs.YtgoeiflddikihaaGreatDoor.Dig Go.Proofs.YtgoeiflddikihaaGreatDoor.PFnVersion Go.Proofs.YtgoeiflddikihaaGreatDoorW.PrintWords Go.Proofs.YtgoeiflddikihaaGreatDoor.Mem Go.Proofs.YtgoeiflddikihaaGreatDoor.Ord Go.Proofs.YtgoeiflddikihaaGreatDoor.Ins
set_option maxRecDepth 20000 in
set_option maxHeartbeats 4000000 in
theorem up_law (l : List S27) (w : World) (A : Option Addr) (c : Nat) (hC : Kd.C k27 w A l.length l) (hcap : l.length ≤ c) {G : Prop} (_ : G) (hv : Vars w) :
    Calls Tryz.prog 11 #[.slice A l.length c] w fun e w' => e = .returned (.bool true) ∧ Below w.heap.size w w' := by
  have HB := Aside0.mk (Below.refl w.heap.size w)
  have HA := Lib.hid (fun W (hb : Below w.heap.size w W) => awake W (Vars.below (w := w) hv hb))
  have HV0 := Lib.hid (fun W (hb : Below w.heap.size w W) => Vars.below (w := w) hv hb)
  have HC := Lib.hid (fun W (hb : Below w.heap.size w W) => Kd.C_below hC hb)
  obtain ⟨b0, k0, hf0, hfit⟩ := fits_f l
  have HZ := Lib.hid (fun W (hb : Below w.heap.size w W) => laws_zzFits3.calls k0 A c l b0 W (Kd.C_below hC hb) hcap hf0)
  cases b0 with
  | false =>
    clear hC hcap hf0 hfit hv
    go_enter Tryz.func11, Tryz.ntmps11
    go_wp2_with (go_at_call 23; ((with_reducible refine (HZ.out _ (by repeat (first | exact HB.out | apply below_alloc | apply pw_below_drewN | apply pw_below_drew))).mono ?_); rintro e w1 ⟨rfl, hb⟩; have HB1 := Aside0.mk (below_trans HB.out hb); clear hb HB; have HB := HB1; clear HB1))
    go_ret
    exact ⟨rfl, HB.out⟩
  | true =>
    obtain ⟨hl, hsz⟩ := hfit rfl
    obtain ⟨b1, k1, hf1, hri⟩ := list_f l (by omega) (fun x hx => by have := hsz x hx; omega)
    cases b1 with
    | false =>
      have HL := Lib.hid (fun W (hb : Below w.heap.size w W) => laws_verList.calls k1 A c l _ _ W (Kd.C_below hC hb) hcap hf1)
      clear hC hcap hf0 hfit hv hf1 hri hl hsz
      go_enter Tryz.func11, Tryz.ntmps11
      go_wp2_with (first | (go_at_call 23; ((with_reducible refine (HZ.out _ (by repeat (first | exact HB.out | apply below_alloc | apply pw_below_drewN | apply pw_below_drew))).mono ?_); rintro e w1 ⟨rfl, hb⟩; have HB1 := Aside0.mk (below_trans HB.out hb); clear hb HB; have HB := HB1; clear HB1)) | (go_at_call 41; ((with_reducible refine (HL.out _ (by repeat (first | exact HB.out | apply below_alloc | apply pw_below_drewN | apply pw_below_drew))).mono ?_); rintro e w2 ⟨v0, rfl, hR, hb⟩; obtain ⟨X, hV, hM⟩ := vok_of hR hb; have HSV := Lib.hid (sv_any _ v0 X false false w2 (by simp) hV hM.has (by simp)); have HB2 := Aside0.mk (below_trans HB.out hb); clear hR hb hV hM HB; have HB := HB2; clear HB2)) | (go_at_call 42; ((with_reducible refine HSV.out.mono ?_); rintro e w3 ⟨v3, X3, rfl, _, hM3⟩; have HB3 := Aside0.mk (below_trans HB.out hM3.bel); clear hM3 HB HSV; have HB := HB3; clear HB3)) | (go_at_call 25; ((with_reducible refine (HA.out _ (by repeat (first | exact HB.out | apply below_alloc | apply pw_below_drewN | apply pw_below_drew))).mono ?_); rintro e w4 ⟨rfl, hb⟩; have HB4 := Aside0.mk (below_trans HB.out hb); clear hb HB; have HB := HB4; clear HB4)))
      go_ret
      exact ⟨rfl, HB.out⟩
    | true =>
      obtain ⟨hl20, har⟩ := hri rfl
      have HAR := Lib.hid har
      have HRG := Lib.hid (show ∀ x ∈ l.map to30, (0 ≤ x.f0 ∧ x.f0 ≤ 3) ∧ x.f1.size ≤ 100000 from fun x hx => by
        obtain ⟨y, hy, rfl⟩ := List.mem_map.1 hx
        have h := har y hy
        exact ⟨⟨h.k0, h.k3⟩, Nat.le_trans h.t60 (by decide)⟩)
      have HL := Lib.hid (fun W (hb : Below w.heap.size w W) => laws_verList.calls k1 A c l (l.map to30) true W (Kd.C_below hC hb) hcap hf1)
      have HLE := Lib.hid (show (l.map to30).length ≤ 100 by rw [List.length_map]; omega)
      have HLL := Lib.hid (show l.length < 50 by omega)
      have hflt : (l.map to30).filter (keepD false) = l.map to30 := List.filter_eq_self.2 (fun x _ => rfl)
      have HFL := Lib.hid hflt
      clear hC hcap hf0 hfit hv hf1 hri hl hsz har hflt hl20
      cases hins : insAll (cmpD false) (l.map to30) [] with
      | none =>
        have HI := Lib.hid hins
        clear hins
        go_enter Tryz.func11, Tryz.ntmps11
        go_wp2_with (first | (go_at_call 23; ((with_reducible refine (HZ.out _ (by repeat (first | exact HB.out | apply below_alloc | apply pw_below_drewN | apply pw_below_drew))).mono ?_); rintro e w1 ⟨rfl, hb⟩; have HB1 := Aside0.mk (below_trans HB.out hb); clear hb HB; have HB := HB1; clear HB1)) | (go_at_call 41; ((with_reducible refine (HL.out _ (by repeat (first | exact HB.out | apply below_alloc | apply pw_below_drewN | apply pw_below_drew))).mono ?_); rintro e w2 ⟨v0, rfl, hR, hb⟩; obtain ⟨X, hV, hM⟩ := vok_of hR hb; have HSV := Lib.hid (sv_any _ v0 X false false w2 (by exact HLE.out) hV hM.has (by exact HRG.out)); have HB2 := Aside0.mk (below_trans HB.out hb); clear hR hb hV hM HB; have HB := HB2; clear HB2)) | (go_at_call 42; ((with_reducible refine HSV.out.mono ?_); intro e w3 hsv; rw [HFL.out, HI.out] at hsv; obtain ⟨rfl, hb⟩ := hsv; have HB3 := Aside0.mk (below_trans HB.out hb); clear hb HB HSV; have HB := HB3; clear HB3)) | (go_at_call 25; ((with_reducible refine (HA.out _ (by repeat (first | exact HB.out | apply below_alloc | apply pw_below_drewN | apply pw_below_drew))).mono ?_); rintro e w4 ⟨rfl, hb⟩; have HB4 := Aside0.mk (below_trans HB.out hb); clear hb HB; have HB := HB4; clear HB4)))
        go_ret
        exact ⟨rfl, HB.out⟩
      | some R =>
        have HI := Lib.hid hins
        clear hins
        have HAP := Lib.hid (fun W (hb : Below w.heap.size w W) => app27 A c l W (HC.out W hb) (Nat.le_of_lt (Nat.lt_of_lt_of_le HLL.out (by decide))))
        go_enter Tryz.func11, Tryz.ntmps11
        go_wp2_with (first | (at_builtin; (refine wpList_app_run rfl rfl rfl HAPP.out (by first | rfl | kernel_rfl | (simp [Region.wanted, yielded]; done) | go_simp) ?_); clear HAPP) | (go_at_call 23; ((with_reducible refine (HZ.out _ (by repeat (first | exact HB.out | apply below_alloc | apply pw_below_drewN | apply pw_below_drew))).mono ?_); rintro e w1 ⟨rfl, hb⟩; have HB1 := Aside0.mk (below_trans HB.out hb); clear hb HB; have HB := HB1; clear HB1)) | (go_at_call 41; ((with_reducible refine (HL.out _ (by repeat (first | exact HB.out | apply below_alloc | apply pw_below_drewN | apply pw_below_drew))).mono ?_); rintro e w2 ⟨v0, rfl, hR, hb⟩; obtain ⟨X, hV, hM⟩ := vok_of hR hb; have HSV := Lib.hid (sv_any _ v0 X false false w2 (by exact HLE.out) hV hM.has (by exact HRG.out)); have HB2 := Aside0.mk (below_trans HB.out hb); clear hR hb hV hM HB; have HB := HB2; clear HB2)) | (go_at_call 42; ((with_reducible refine HSV.out.mono ?_); intro e w3 hsv; rw [HFL.out, HI.out] at hsv; obtain ⟨v3, X3, rfl, hV3, hM3⟩ := hsv; obtain ⟨A3, c3, rfl, hc3, hk3⟩ := vok_c hV3 hM3 (fun _ h => h); have HB3 := Aside0.mk (below_trans HB.out hM3.bel); have HK := Lib.hid (fun W (hb : Below w3.heap.size w3 W) => Kd.C_below hk3 hb); have HCC := Lib.hid hc3; have HX := Aside0.mk (Below.refl w3.heap.size w3); clear hV3 hM3 hk3 hc3 HB HSV; have HB := HB3; clear HB3)) | (go_at_call 25; ((with_reducible refine (HA.out _ (by repeat (first | exact HB.out | apply below_alloc | apply pw_below_drewN | apply pw_below_drew))).mono ?_); rintro e w4 ⟨rfl, hb⟩; have HB4 := Aside0.mk (below_trans HB.out hb); have HX4 := Aside0.mk (below_trans HX.out hb); clear hb HB HX; obtain ⟨v5, w5, hap0, ho, hb5⟩ := HAP.out w4 HB4.out; have HPS := Lib.hid (psort false l HAR.out HLL.out v5 _ w5 (HV0.out w5 (below_trans HB4.out hb5)) ho); have HB := Aside0.mk (below_trans HB4.out hb5); have HX := Aside0.mk (below_trans HX4.out hb5); have HAPP := Lib.hid hap0; clear ho hb5 HB4 HX4 hap0)) | (go_at_call 37; ((with_reducible refine HPS.out.mono ?_); rintro e w6 ⟨x6, L, rfl, hp, hs, ho, hb⟩; obtain ⟨A6, c6, rfl, hc6, hk6⟩ := row27 rfl ho; obtain rfl := want_eq HI.out hp hs; have hvs := laws_verSorted.calls (L.length + 1) A6 c6 L A3 c3 (L.map to30) true w6 hk6 hc6 (HK.out w6 (below_trans HX.out hb)) HCC.out (same_f L (by rw [hp.length_eq]; have := HLL.out; omega)); rw [List.length_map] at hvs; have HVS := Lib.hid hvs; clear hvs; have HB6 := Aside0.mk (below_trans HB.out hb); clear hp hs ho hb hc6 hk6 HB HX HPS; have HB := HB6; clear HB6)) | (go_at_call 43; ((with_reducible refine HVS.out.mono ?_); rintro e w7 ⟨rfl, hb⟩; have HB7 := Aside0.mk (below_trans HB.out hb); clear hb HB HVS; have HB := HB7; clear HB7)))
        go_ret
        exact ⟨rfl, HB.out⟩
end Go.Proofs.YtgoeiflddikihaaGreatDoor.Ver
end
section
namespace Go.Proofs.YtgoeiflddikihaaGreatDoor.Opens
open Go.RowKit Go.Proofs.YtgoeiflddikihaaGreatDoorW.PrintWords Go.Proofs.YtgoeiflddikihaaGreatDoor.PFnVersion
theorem opens_27 : Opens Tryz.prog 27 k27 (fun x => (Lit.int .i64 x.f0).wf = true ∧ x.f1.size ≤ maxLen ∧ x.f2.size ≤ maxLen) :=
  opens_iso (fun x : S27 => (x.f0, x.f1, x.f2)) (fun a => ⟨a.1, a.2.1, a.2.2⟩) (fun _ => rfl) opens_ver
theorem opens_27s : Opens Tryz.prog 23 (Kd.slice 27 k27) (fun l => ∀ x ∈ l, (Lit.int .i64 x.f0).wf = true ∧ x.f1.size ≤ maxLen ∧ x.f2.size ≤ maxLen) :=
  opens_slice Tryz.underlying23 (by kernel_rfl) opens_27
end Go.Proofs.YtgoeiflddikihaaGreatDoor.Opens
end
