/- Merged by program out of: SpecF. -/
import Derived.Test.YtgoeiflddikihaaGreatDoorCpM42
import Derived.Test.YtgoeiflddikihaaGreatDoorCpM12
import Derived.Test.YtgoeiflddikihaaGreatDoorCpM4
section
namespace Go.Proofs.YtgoeiflddikihaaGreatDoor.Ver
set_option linter.unusedSimpArgs false
set_option linter.unusedVariables false
open Go.Sort Go.RowKit Go.Proofs.YtgoeiflddikihaaGreatDoor.Dig Go.Proofs.YtgoeiflddikihaaGreatDoorW.PrintWords Go.Proofs.YtgoeiflddikihaaGreatDoor.Mem Go.Proofs.YtgoeiflddikihaaGreatDoor.Ord Go.Proofs.YtgoeiflddikihaaGreatDoor.Ins Go.Proofs.YtgoeiflddikihaaGreatDoor.PFnVersion
instance : ZeroC Tryz.prog 30 #[.int .i64 0, .string ⟨#[]⟩, .string ⟨#[]⟩] := ⟨by kernel_rfl⟩
def cmpD (down : Bool) (x y : S30) : Int := versC down (verV x.f0 x.f1 x.f2) (verV y.f0 y.f1 y.f2)
def keepD (paired : Bool) (x : S30) : Bool := !(paired && x.f2.toList.isEmpty)
def SvEnd (R : Option (List S30)) (w : World) (e : Ending) (w' : World) : Prop := match R with
  | none => e = .returned (.tuple #[.slice none 0 0, .bool false]) ∧ RowKit.Below w.heap.size w w'
  | some L => ∃ v X, e = .returned (.tuple #[v, .bool true]) ∧ VOk L v X ∧ Blks w w' X
theorem keep_false {paired : Bool} {x : S30} (h : keepD paired x = false) : paired = true ∧ x.f2.toList.isEmpty = true := by
  unfold keepD at h; simpa using h
theorem keep_true {paired : Bool} {x : S30} (h : keepD paired x = true) : paired = false ∨ paired = true ∧ x.f2.toList.isEmpty = false := by
  unfold keepD at h; cases paired <;> simp at h ⊢; simpa using h
theorem ins_skip {c : S30 → S30 → Int} {p : S30 → Bool} {D out : List S30} {k : Nat} (hk : k < D.length) (hp : p D[k] = false) : insAll c ((D.drop k).filter p) out = insAll c ((D.drop (k + 1)).filter p) out := by
  rw [List.drop_eq_getElem_cons hk, List.filter_cons_of_neg (by rw [hp]; decide)]
def insNext (c : S30 → S30 → Int) (rest out : List S30) (v : S30) : Option Nat → Option (List S30)
  | none => none
  | some m => insAll c rest (out.take m ++ v :: out.drop m)
theorem ins_take {c : S30 → S30 → Int} {p : S30 → Bool} {D out : List S30} {k : Nat} (hk : k < D.length) (hp : p D[k] = true) : insAll c ((D.drop k).filter p) out = insNext c ((D.drop (k + 1)).filter p) out D[k] (scan c D[k] out out.length out.length) := by
  rw [List.drop_eq_getElem_cons hk, List.filter_cons_of_pos hp, insAll]
  unfold insNext
  split <;> simp_all
theorem ins_end {c : S30 → S30 → Int} {p : S30 → Bool} {D out : List S30} {k : Nat} (hk : D.length ≤ k) : insAll c ((D.drop k).filter p) out = some out := by
  rw [List.drop_eq_nil_of_le hk]; rfl
theorem scan_at {c : S30 → S30 → Int} {v : S30} {out : List S30} {j k : Nat} (hj : j < out.length) : scan c v out (j + 1) k = if c v out[j] = 0 then none else if c v out[j] < 0 then scan c v out j j else scan c v out j k := by
  rw [scan, List.getElem?_eq_getElem hj]
set_option maxRecDepth 20000 in
set_option maxHeartbeats 8000000 in
theorem sv_any (D : List S30) (vl : Value) (XD : List Blk) (down paired : Bool) (w : World) (hl : D.length ≤ 100) (hD : VOk D vl XD) (hX : ∀ z ∈ XD, w.heap[z.1]? = some (.cells z.2.1.toArray z.2.2 (0, 0)))
    (hr : ∀ x ∈ D, (0 ≤ x.f0 ∧ x.f0 ≤ 3) ∧ x.f1.size ≤ 100000) :
    Calls Tryz.prog 42 #[vl, .bool down, .bool paired] w (SvEnd (insAll (cmpD down) (D.filter (keepD paired)) []) w) := by
  have hcell : D ≠ [] → ∃ g cap, vl = .slice (some ⟨g, 0, none⟩) D.length cap ∧ g < w.heap.size ∧ ∀ j (hj : j < D.length), w.cell? ⟨g, j * 3, none⟩ = some (.int .i64 D[j].f0) ∧ w.cell? ⟨g, j * 3 + 1, none⟩ = some (.string D[j].f1) ∧ w.cell? ⟨g, j * 3 + 2, none⟩ = some (.string D[j].f2) := by
    intro hne
    rcases hD with ⟨_, rfl, _⟩ | ⟨g, cap, rest, rfl, h, _, rfl⟩
    · exact absurd rfl hne
    · have hb := hX _ (List.mem_singleton.2 rfl)
      refine ⟨g, cap, rfl, hlt hb, fun j hj => ?_⟩
      have key : ∀ i u, (flat3 D)[i]? = some u → w.cell? ⟨g, i, none⟩ = some u := by
        intro i u hu
        rw [cell_of_row w g i _ _ (0, 0) hb, ← Array.getElem?_toList]
        have : i < (flat3 D).length := (List.getElem?_eq_some_iff.1 hu).1
        rw [List.getElem?_append_left this]; exact hu
      obtain ⟨h0, h1, h2⟩ := flat3_at D j hj
      exact ⟨key _ _ h0, key _ _ h1, key _ _ h2⟩
  obtain ⟨AD, cD, rfl, _⟩ := hD.val
  have HCD := Lib.hid hcell
  have HRT := Lib.hid hr
  clear hcell hD hX hr
  obtain ⟨n, hn⟩ : ∃ n, D.length = n := ⟨_, rfl⟩
  obtain ⟨R, hR⟩ : ∃ R, R = insAll (cmpD down) (D.filter (keepD paired)) [] := ⟨_, rfl⟩
  rw [← hR]
  have HN := Lib.hid hn
  have HR := Lib.hid hR
  rw [hn] at hl
  clear hn hR
  have hvl : ∃ v, v = Value.slice AD D.length cD := ⟨_, rfl⟩
  rw [HN.out]
  clear hvl
  go_enter Tryz.func42, Tryz.ntmps42
  go_wp2_with fail
  go_loopw [8, 16] (fun v8 v16 wr => ∃ (k : Nat) (out : List S30) (X : List Blk), v16 = .int .i64 k ∧ k ≤ n ∧ out.length ≤ k ∧ Aside0 (VOk out v8 X) ∧ Aside0 (R = insAll (cmpD down) ((D.drop k).filter (keepD paired)) out) ∧ Aside0 (∀ y ∈ out, y ∈ D) ∧ Aside0 (Blks w wr X)) (fun _ v16 _ => n - (intOf v16).toNat)
  case atStart => exact ⟨0, [], [], rfl, Nat.zero_le _, Nat.le_refl _, ⟨Or.inl ⟨rfl, rfl, rfl⟩⟩, ⟨by rw [List.drop_zero]; exact HR.out⟩, ⟨fun y hy => by cases hy⟩, ⟨Blks.start w⟩⟩
  case round =>
    clear HR
    obtain ⟨k, out, X, rfl, hk, ho, HV, HR, HXM0, HM⟩ := hrel
    by_cases hlt : k < n
    · have d1 : decide ((k : Int) < (n : Int)) = true := decide_eq_true (by omega)
      have d2 : decide (k < n) = true := decide_eq_true hlt
      have HLT := Lib.hid (show k < D.length by rw [HN.out]; exact hlt)
      obtain ⟨gD, cDD, eD, hgD, hcD⟩ := HCD.out (by intro e; have := HLT.out; rw [e] at this; cases this)
      obtain ⟨rfl, _⟩ : AD = some ⟨gD, 0, none⟩ ∧ True := ⟨(Value.slice.inj eD).1, trivial⟩
      obtain ⟨c0, c1, c2⟩ := hcD k HLT.out
      replace c0 := (HM.out.bel.cell (p := ⟨gD, k * 3, none⟩) hgD).trans c0
      replace c1 := (HM.out.bel.cell (p := ⟨gD, k * 3 + 1, none⟩) hgD).trans c1
      replace c2 := (HM.out.bel.cell (p := ⟨gD, k * 3 + 2, none⟩) hgD).trans c2
      have HRX := Lib.hid (HRT.out D[k] (List.getElem_mem HLT.out))
      clear eD hcD
      have HGD := Lib.hid hgD
      clear hgD
      cases hp : keepD paired D[k] with
      | false =>
        have HR2 := Aside0.mk (HR.out.trans (ins_skip HLT.out hp))
        obtain ⟨rfl, he⟩ := keep_false hp
        clear HR hp
        generalize D[k] = x at *
        obtain ⟨xa, xt, xr⟩ := x
        dsimp only at c0 c1 c2 he
        go_upto_region 5 with (first | (refine m_alloc (by repeat (first | exact HM.out | apply Blks.drewN | apply Blks.drew | apply Blks.other)) (h := ?_); intro bv wq HN; clear HM; have HM := HN; clear HN) | (refine m_store (by repeat (first | exact HM.out | apply Blks.drewN | apply Blks.drew | apply Blks.other)) (h := ?_); intro wq HN; clear HM; have HM := HN; clear HN))
        have kv0 := Blks.cell HM.out (b := bv) (o := 0) (by repeat (first | exact List.Mem.head _ | apply List.Mem.tail)) (by repeat (first | exact Rd.nil | apply Rd.here | apply Rd.skip)); have kv1 := Blks.cell HM.out (b := bv) (o := 1) (by repeat (first | exact List.Mem.head _ | apply List.Mem.tail)) (by repeat (first | exact Rd.nil | apply Rd.here | apply Rd.skip)); have kv2 := Blks.cell HM.out (b := bv) (o := 2) (by repeat (first | exact List.Mem.head _ | apply List.Mem.tail)) (by repeat (first | exact Rd.nil | apply Rd.here | apply Rd.skip))
        go_wp2_with fail
        go_roundw
        case rel => exact ⟨k + 1, out, X, by go_num, by omega, by omega, HV, HR2, HXM0, ⟨HM.out.less (List.Sublist.cons _ (List.Sublist.refl _))⟩⟩
        case measure => simp [intOf]; omega
      | true =>
        have HR2 := Lib.hid (HR.out.trans (ins_take HLT.out hp))
        have hkt := keep_true hp
        have hxm := HXM0.out
        have HXX := Lib.hid (List.getElem_mem HLT.out)
        clear HXM0
        have HVO := Lib.hid (fun (y : S30) (hy : (0 ≤ y.f0 ∧ y.f0 ≤ 3) ∧ y.f1.size ≤ 100000) W => ver_order D[k].f0 y.f0 D[k].f1 D[k].f2 y.f1 y.f2 down HRX.out.1 hy.1 HRX.out.2 hy.2 W)
        clear HR hp
        generalize D[k] = x at *
        clear HLT
        obtain ⟨xa, xt, xr⟩ := x
        dsimp only at c0 c1 c2 hkt HVO
        have HXM := Lib.hid hxm
        clear hxm
        go_upto_region 5 with (first | (refine m_alloc (by repeat (first | exact HM.out | apply Blks.drewN | apply Blks.drew | apply Blks.other)) (h := ?_); intro bv wq HN; clear HM; have HM := HN; clear HN) | (refine m_store (by repeat (first | exact HM.out | apply Blks.drewN | apply Blks.drew | apply Blks.other)) (h := ?_); intro wq HN; clear HM; have HM := HN; clear HN))
        go_simp
        go_cut [25] from 20 to 25 (fun v25 wx => v25 = .bool false ∧ Aside0 (Blks w wx ((bv, [.int .i64 xa, .string xt, .string xr], 30) :: X)))
        case first =>
          have kv0 := Blks.cell HM.out (b := bv) (o := 0) (by repeat (first | exact List.Mem.head _ | apply List.Mem.tail)) (by repeat (first | exact Rd.nil | apply Rd.here | apply Rd.skip)); have kv1 := Blks.cell HM.out (b := bv) (o := 1) (by repeat (first | exact List.Mem.head _ | apply List.Mem.tail)) (by repeat (first | exact Rd.nil | apply Rd.here | apply Rd.skip)); have kv2 := Blks.cell HM.out (b := bv) (o := 2) (by repeat (first | exact List.Mem.head _ | apply List.Mem.tail)) (by repeat (first | exact Rd.nil | apply Rd.here | apply Rd.skip))
          rcases hkt with rfl | ⟨rfl, he⟩
          · go_wp2_with fail
            go_meet
            case rel => exact ⟨rfl, ⟨(by repeat (first | exact HM.out | apply Blks.drewN | apply Blks.drew | apply Blks.other))⟩⟩
          · go_wp2_with fail
            go_meet
            case rel => exact ⟨rfl, ⟨(by repeat (first | exact HM.out | apply Blks.drewN | apply Blks.drew | apply Blks.other))⟩⟩
        case rest =>
        clear HM c0 c1 c2 hkt
        obtain ⟨rfl, HM⟩ := hcut
        obtain ⟨A, cap, rfl, hoc, hcm⟩ := HV.out.val
        have HOC := Lib.hid hoc
        have HCM := Lib.hid hcm
        clear hoc hcm
        obtain ⟨m, hm⟩ : ∃ m, out.length = m := ⟨_, rfl⟩
        have HMM := Lib.hid hm
        rw [hm] at ho
        have HV2 := Aside0.mk (show VOk out (.slice A m cap) X by rw [← hm]; exact HV.out)
        rw [hm]
        clear HV hm
        obtain ⟨S, hS⟩ : ∃ S, S = scan (cmpD down) ⟨xa, xt, xr⟩ out m m := ⟨_, rfl⟩
        have HR3 := Lib.hid (show R = insNext (cmpD down) ((D.drop (k + 1)).filter (keepD paired)) out ⟨xa, xt, xr⟩ S by rw [hS, HR2.out, HMM.out])
        have HS := Lib.hid hS
        clear HR2 hS
        go_wp2_with fail
        go_loopw [11, 12] (fun v11 v12 wr2 => ∃ (z : Int) (q : Nat), v12 = .int .i64 z ∧ v11 = .int .i64 q ∧ -1 ≤ z ∧ z < (m : Int) ∧ q ≤ m ∧ Aside0 (S = scan (cmpD down) ⟨xa, xt, xr⟩ out (z + 1).toNat q) ∧ Aside0 (Blks w wr2 ((bv, [.int .i64 xa, .string xt, .string xr], 30) :: X))) (fun _ v12 _ => (intOf v12 + 1).toNat)
        case atStart => exact ⟨_, m, rfl, rfl, by omega, by omega, Nat.le_refl _, ⟨by rw [HS.out]; congr 1; omega⟩, HM⟩
        case round =>
          clear HM HS
          obtain ⟨z, q, rfl, rfl, hz1, hz2, hq, HS, HM⟩ := hrel
          have kv0 := Blks.cell HM.out (b := bv) (o := 0) (by repeat (first | exact List.Mem.head _ | apply List.Mem.tail)) (by repeat (first | exact Rd.nil | apply Rd.here | apply Rd.skip)); have kv1 := Blks.cell HM.out (b := bv) (o := 1) (by repeat (first | exact List.Mem.head _ | apply List.Mem.tail)) (by repeat (first | exact Rd.nil | apply Rd.here | apply Rd.skip)); have kv2 := Blks.cell HM.out (b := bv) (o := 2) (by repeat (first | exact List.Mem.head _ | apply List.Mem.tail)) (by repeat (first | exact Rd.nil | apply Rd.here | apply Rd.skip))
          by_cases hz : 0 ≤ z
          · obtain ⟨j, rfl⟩ : ∃ j : Nat, z = (j : Int) := ⟨z.toNat, by omega⟩
            have hjm : j < m := by omega
            have e1 : decide ((0 : Int) ≤ (j : Int)) = true := decide_eq_true hz
            have HJ := Lib.hid (show j < out.length by rw [HMM.out]; exact hjm)
            obtain ⟨gO, cO, eO, hcO⟩ := HV2.out.elem HM.out (fun y hy => List.mem_cons_of_mem _ hy) (by intro e; have := HJ.out; rw [e] at this; cases this)
            obtain ⟨rfl, _⟩ : A = some ⟨gO, 0, none⟩ ∧ True := ⟨(Value.slice.inj eO).1, trivial⟩
            obtain ⟨f0, f1, f2⟩ := hcO j HJ.out
            have HS2 := Lib.hid (HS.out.trans (show scan (cmpD down) ⟨xa, xt, xr⟩ out ((j : Int) + 1).toNat q = _ by rw [show ((j : Int) + 1).toNat = j + 1 by omega, scan_at HJ.out]))
            have HQ := Lib.hid (fun d os => Calls.regrown_of (HVO.out (out[j]'HJ.out) (HRT.out _ (HXM.out _ (List.getElem_mem HJ.out))) (grow (redrawn wr d) os)))
            clear eO hcO HS hz hz1 hz2
            generalize out[j]'HJ.out = y at *
            clear HJ
            obtain ⟨cv, hcv⟩ : ∃ cv, cv = cmpD down ⟨xa, xt, xr⟩ y := ⟨_, rfl⟩
            rw [← hcv] at HS2
            rw [show versC down (verV xa xt xr) (verV y.f0 y.f1 y.f2) = cv from hcv.symm] at HQ
            clear hcv
            go_upto_region 10 with (fail)
            have kq0 := fun d os => cell_regrown (kv0) d os
            have kq1 := fun d os => cell_regrown (kv1) d os
            have kq2 := fun d os => cell_regrown (kv2) d os
            have fq0 := fun d os => cell_regrown (f0) d os
            have fq1 := fun d os => cell_regrown (f1) d os
            have fq2 := fun d os => cell_regrown (f2) d os
            refine wp_region_quiet_below (by kernel_rfl) (by kernel_rfl) ?_
            repeat (go_big_quiet_step (exact HQ.out _ _))
            refine wpQuiet_nil ?_
            intro _ hw'
            obtain ⟨⟨dq, osq⟩, hw''⟩ := hw'
            subst hw''
            have HN := Aside0.mk (Blks.call HM.out (below_regrown _ dq osq)); clear HM; have HM := HN; clear HN
            clear kq0 kq1 kq2 fq0 fq1 fq2
            generalize grow (redrawn _ dq) osq = wz at *
            clear HQ e1
            by_cases h0 : cv = 0
            · have e2 : (cv == 0) = true := beq_iff_eq.2 h0
              have hs := HS2.out
              rw [if_pos h0] at hs
              have hr : R = none := by rw [HR3.out, hs]; rfl
              subst hr
              clear hs h0 HS2 HR3
              go_wp2_with fail
              go_ret2
              exact ⟨rfl, HM.out.bel⟩
            · have e2 : (cv == 0) = false := beq_eq_false_iff_ne.2 h0
              by_cases h1 : cv < 0
              · have e3 : decide (cv < 0) = true := decide_eq_true h1
                have HS3 := Aside0.mk (HS2.out.trans (by rw [if_neg h0, if_pos h1]))
                clear HS2 h0 h1
                go_wp2_with fail
                go_roundw
                case rel => exact ⟨(j : Int) - 1, j, by go_num, rfl, by omega, by omega, by omega, ⟨by rw [HS3.out]; congr 1; omega⟩, HM⟩
                case measure => (simp [intOf]; try omega)
              · have e3 : decide (cv < 0) = false := decide_eq_false h1
                have HS3 := Aside0.mk (HS2.out.trans (by rw [if_neg h0, if_neg h1]))
                clear HS2 h0 h1
                go_wp2_with fail
                go_roundw
                case rel => exact ⟨(j : Int) - 1, q, by go_num, rfl, by omega, by omega, by omega, ⟨by rw [HS3.out]; congr 1; omega⟩, HM⟩
                case measure => (simp [intOf]; try omega)
          · have e1 : decide ((0 : Int) ≤ z) = false := decide_eq_false hz
            obtain rfl : z = -1 := by omega
            have hs : S = some q := HS.out
            have HR4 := Aside0.mk (show R = insAll (cmpD down) ((D.drop (k + 1)).filter (keepD paired)) (out.take q ++ ⟨xa, xt, xr⟩ :: out.drop q) by rw [HR3.out, hs]; rfl)
            clear hs HS HR3 hz hz1 hz2
            go_upto_region 15 with (fail)
            have HND := Lib.hid HM.out.nd
            have hmm := HMM.out
            subst hmm
            clear HMM e1 kv0 kv1 kv2
            refine wp_region_held_drew (S := fun w' => Blks w w' ((bv, [.int .i64 xa, .string xt, .string xr], 30) :: X)) (by kernel_rfl) (by repeat (first | exact HM.out | apply Blks.drewN | apply Blks.drew | apply Blks.other)) (fun hS => ?_)
            have HN2 := Aside0.mk hS
            clear hS HM
            have HM := HN2
            clear HN2
            generalize World.drew wr = wx at *
            refine wpAnyH_take (i := 0) (v := .slice A out.length cap) rfl (by kernel_rfl) (by kernel_rfl) (by kernel_rfl) (fun _ _ _ h => h) (Or.inl ⟨by rfl, fun _ _ => rfl⟩) HM.out ?_
            (try simp only [Act.put, List.setIfInBounds_toArray, List.set_cons_zero, List.set_cons_succ])
            refine wpAnyH_take (i := 1) (v := .int .i64 (q : Int)) rfl (by kernel_rfl) (by kernel_rfl) (by kernel_rfl) (fun _ _ _ h => h) (Or.inl ⟨by rfl, fun _ _ => rfl⟩) HM.out ?_
            (try simp only [Act.put, List.setIfInBounds_toArray, List.set_cons_zero, List.set_cons_succ])
            refine wpAnyH_take (i := 2) (v := .int .i64 (q : Int)) rfl (by kernel_rfl) (by kernel_rfl) (by kernel_rfl) (fun _ _ _ h => h) (Or.inl ⟨by rfl, fun _ _ => rfl⟩) HM.out ?_
            (try simp only [Act.put, List.setIfInBounds_toArray, List.set_cons_zero, List.set_cons_succ])
            refine wpAnyH_take (i := 3) (v := .slice A q q) rfl (by kernel_rfl) (by kernel_rfl) (by kernel_rfl) (fun _ _ _ h => h) (Or.inl ⟨by rfl, fun W _ => by have hh := slice_head A out.length cap q hq HOC.out HCM.out W; go_simp⟩) HM.out ?_
            (try simp only [Act.put, List.setIfInBounds_toArray, List.set_cons_zero, List.set_cons_succ])
            refine wpAnyH_take (i := 4) (v := .agg #[.int .i64 xa, .string xt, .string xr]) rfl (by kernel_rfl) (by kernel_rfl) (by kernel_rfl) (fun _ _ _ h => h) (d_load (w0 := w) (by rfl) (by rfl) (fun w h => h) (by repeat (first | exact List.Mem.head _ | apply List.Mem.tail)) (by repeat (first | exact Rd.nil | apply Rd.here | apply Rd.skip))) HM.out ?_
            (try simp only [Act.put, List.setIfInBounds_toArray, List.set_cons_zero, List.set_cons_succ])
            refine wpAnyH_take (i := 6) (v := .slice A out.length cap) rfl (by kernel_rfl) (by kernel_rfl) (by kernel_rfl) (fun _ _ _ h => h) (Or.inl ⟨by rfl, fun _ _ => rfl⟩) HM.out ?_
            (try simp only [Act.put, List.setIfInBounds_toArray, List.set_cons_zero, List.set_cons_succ])
            refine wpAnyH_take (i := 7) (v := .int .i64 (q : Int)) rfl (by kernel_rfl) (by kernel_rfl) (by kernel_rfl) (fun _ _ _ h => h) (Or.inl ⟨by rfl, fun _ _ => rfl⟩) HM.out ?_
            (try simp only [Act.put, List.setIfInBounds_toArray, List.set_cons_zero, List.set_cons_succ])
            refine wpAnyH_take (i := 8) (v := tailV A out.length cap q) rfl (by kernel_rfl) (by kernel_rfl) (by kernel_rfl) (fun _ _ _ h => h) (Or.inl ⟨by rfl, fun W _ => by have hh := slice_tail A out.length cap q hq HOC.out HCM.out W; go_simp⟩) HM.out ?_
            (try simp only [Act.put, List.setIfInBounds_toArray, List.set_cons_zero, List.set_cons_succ])
            refine wpAnyH_ready (rs := [5]) (by kernel_rfl) (by simp) ?_
            refine AllReadyH.cons (o := ⟨some 52, .buildSlice 67 1 _, _, _, _, none⟩) rfl (fun K hK => ?_) AllReadyH.nil
            go_simp
            have HN2 := Aside0.mk (Blks.alloc HM.out #[.int .i64 xa, .string xt, .string xr] 30)
            refine hK.out _ _ (HN2.out.less (List.Sublist.cons _ (List.Sublist.refl _))) (fun _ => ?_)
            clear hK K HM
            have HM := HN2
            clear HN2
            generalize wx.heap.size = b1 at *
            generalize World.alloc wx _ = wy at *
            (try simp only [Act.put, List.setIfInBounds_toArray, List.set_cons_zero, List.set_cons_succ])
            refine wpAnyH_ready (rs := [9]) (by kernel_rfl) (by simp) ?_
            refine AllReadyH.cons (o := ⟨some 56, .call { callee := .builtin .append, args := #[.tmp 52, .tmp 55], argTypes := #[67, 67] }, _, _, _, none⟩) rfl (fun K hK => ?_) AllReadyH.nil
            refine d_app1 (x := ⟨xa, xt, xr⟩) (out := out) (b1 := b1) HM.out (List.Mem.head _) HV2.out (fun y hy => List.mem_cons_of_mem _ (List.mem_cons_of_mem _ hy)) hq (by omega) rfl rfl ?_
            intro g1 cap1 rest1 wq L2 HN2 hsub hm1
            refine hK.out _ _ (HN2.out.sub (fun y hy => hsub y (List.mem_cons_of_mem _ hy)) HND.out) (fun _ => ?_)
            clear hK K HM
            (try simp only [Act.put, List.setIfInBounds_toArray, List.set_cons_zero, List.set_cons_succ])
            refine wpAnyH_ready (rs := [10]) (by kernel_rfl) (by simp) ?_
            refine AllReadyH.cons (o := ⟨some 57, .call { callee := .builtin .append, args := #[.tmp 50, .tmp 56], argTypes := #[67, 67] }, _, _, _, none⟩) rfl (fun K hK => ?_) AllReadyH.nil
            refine d_app2 (out := out) (ys := ⟨xa, xt, xr⟩ :: out.drop q) HN2.out hm1 HV2.out (fun y hy => hsub y (List.mem_cons_of_mem _ (List.mem_cons_of_mem _ hy))) hq (by rw [List.length_cons, List.length_drop]; omega) (by omega) (by omega) (by omega) rfl rfl ?_
            intro v' wq2 L3 X' HN3 hsub3 hX' hv'
            refine hK.out _ _ (HN3.out.sub (fun y hy => hsub3 y (hsub y (List.mem_cons_of_mem _ hy))) HND.out) (fun hS3 => ?_)
            clear hK K
            (try simp only [Act.put, List.setIfInBounds_toArray, List.set_cons_zero, List.set_cons_succ])
            refine wpAnyH_take (i := 11) (v := v') rfl (by kernel_rfl) (by kernel_rfl) (by kernel_rfl) (fun _ _ _ h => h) (Or.inl ⟨by rfl, fun _ _ => rfl⟩) hS3 ?_
            (try simp only [Act.put, List.setIfInBounds_toArray, List.set_cons_zero, List.set_cons_succ])
            refine wpAnyH_done (by kernel_rfl) ?_ _
            have HV3 := Aside0.mk hv'
            have HN4 := Aside0.mk (HN3.out.sub hX' hv'.nodup)
            have HXM2 := Aside0.mk (show ∀ y ∈ out.take q ++ ⟨xa, xt, xr⟩ :: out.drop q, y ∈ D from fun y hy => by
              rcases List.mem_append.1 hy with h | h
              · exact HXM.out y (List.mem_of_mem_take h)
              · rcases List.mem_cons.1 h with rfl | h
                · exact HXX.out
                · exact HXM.out y (List.mem_of_mem_drop h))
            have HLN := Lib.hid (show (out.take q ++ ⟨xa, xt, xr⟩ :: out.drop q).length ≤ k + 1 by rw [List.length_append, List.length_take, List.length_cons, List.length_drop]; omega)
            clear HN3 hX' hv' hsub3 hsub hm1 HN2 hS3
            go_wp2_with fail
            go_roundw
            case rel => exact ⟨k + 1, _, X', by go_num, by omega, HLN.out, HV3, HR4, HXM2, HN4⟩
            case measure => (simp [intOf]; omega)
    · have d1 : decide ((k : Int) < (n : Int)) = false := decide_eq_false (by omega)
      have d2 : decide (k < n) = false := decide_eq_false hlt
      have hr := HR.out.trans (ins_end (by rw [HN.out]; omega))
      subst hr
      clear HR
      go_wp2_with fail
      go_ret2
      exact ⟨_, X, rfl, HV.out, HM.out⟩
end Go.Proofs.YtgoeiflddikihaaGreatDoor.Ver
end
