/- Merged by program out of: Sort7. -/
import Derived.Test.YtgoeiflddikihaaGreatDoorCsoM19
import Derived.Shelf.GgSortFunc.Pdq
import Derived.Deep.Cut
import Derived.Deep.CutRange
section
namespace Go.Proofs.YtgoeiflddikihaaGreatDoor.Srt
open Go.RowKit Go.Proofs.YtgoeiflddikihaaGreatDoorW.PrintWords Go.Sort
variable {α : Type} [Inhabited α]
set_option maxHeartbeats 12800000 in
set_option maxRecDepth 1000000 in
theorem pdq_any {T : TypeId} {rv : Value} {gn gl gs : Nat} (hm : Meth T rv gn gl gs) (enc : α → Value) (lt : α → α → Bool) (hO : SWO lt) (w : World) (blk off n : Nat) (hl : LessC gl rv enc lt w blk off n) (hs : ∀ w', SwapC gs rv enc w' blk off n) (hn : n < 50) :
    ∀ (N a b limit : Nat) (d : Array α) (W : World), b - a < N → SI enc w blk off d W → d.size = n → a ≤ b → b ≤ n → limit < 4611686018427387904 → Sort.Below lt a b d →
    Calls Tryz.prog 124 #[.iface T rv, .int .i64 a, .int .i64 b, .int .i64 limit] W fun e w' => e = .returned (.tuple #[]) ∧ SI enc w blk off (pdq lt d a b limit true true) w' := by
  have hn2 : n < 4611686018427387904 := by omega
  have CI := Lib.hid (fun a b hab hb W d hd hW => ins_any hm enc lt w blk off n hl (hs w) hn2 a b hab hb W d hd hW)
  have CH := Lib.hid (fun a b hab hb W d hd hW => heap_any hm enc lt w blk off n hl (hs w) hn2 a b hab hb W d hd hW)
  have CB := Lib.hid (fun a b hab hb W d hd hW => brk_any hm enc w blk off n hs hn2 a b hab hb W d hd hW)
  have CC := Lib.hid (fun a b hab hb W d hd hW => pivot_any hm enc lt w blk off n hl hn a b hab hb W d hd hW)
  have CR := Lib.hid (fun a b hab hb W d hd hW => rev_any hm enc w blk off n (hs w) hn2 a b hab hb W d hd hW)
  have CP := Lib.hid (fun a b hab hb W d hd hW => part_ins_any hm enc lt w blk off n hl hn a b hab hb W d hd hW)
  have CE := Lib.hid (fun a b p hap hpb hb W d hd hW => partEq_any hm enc lt w blk off n hl (hs w) hn2 a b p hap hpb hb W d hd hW)
  have CT := Lib.hid (fun a b p hap hpb hb W d hd hW => part_any hm enc lt w blk off n hl (hs w) hn2 a b p hap hpb hb W d hd hW)
  have HL := Lib.hid hl
  have mL := hm.l
  have eL := hm.el
  clear hl hs hm
  intro N
  induction N with
  | zero => intro _ _ _ _ _ h; exact absurd h (Nat.not_lt_zero _)
  | succ N ih0 =>
    intro a b limit d W hN hW hd hab hb hlimit hBel0
    have IH := Lib.hid ih0
    have HW := Aside0.mk hW
    have HD := Lib.hid hd
    have HBel0 := Lib.hid hBel0
    clear ih0 hW hd hBel0
    go_enter Tryz.func124, Tryz.ntmps124
    go_wp2
    go_loopg [1, 2, 3, 8, 9] (b - a) (fun k s1 s2 s3 s8 s9 wr => ∃ (a' b' lim : Nat) (wb wp : Bool) (dk : Array α), s1 = .int .i64 a' ∧ s2 = .int .i64 b' ∧ s3 = .int .i64 lim ∧ s8 = .bool wb ∧ s9 = .bool wp ∧
      a' ≤ b' ∧ b' ≤ n ∧ b' - a' ≤ k ∧ k ≤ b - a ∧ lim ≤ limit ∧ Hid (dk.size = n) ∧ Hid (Sort.Below lt a' b' dk) ∧ Aside0 (SI enc w blk off dk wr) ∧ Hid (pdq lt dk a' b' lim wb wp = pdq lt d a b limit true true))
    case atStart => exact ⟨a, b, limit, true, true, d, rfl, rfl, rfl, rfl, rfl, hab, hb, Nat.le_refl _, Nat.le_refl _, Nat.le_refl _, HD, HBel0, HW, Lib.hid rfl⟩
    case round =>
      obtain ⟨a', b', lim, wb, wp, dk, rfl, rfl, rfl, rfl, rfl, hab', hb', hk, hkN, hlim, HK, HBel, HAt, A⟩ := hrel
      by_cases h12 : b' - a' ≤ 12
      · have h12z : (b' : Int) - (a' : Int) ≤ 12 := by omega
        go_wp2_with (go_at_call 132; refine (CI.out a' b' hab' hb' _ dk HK.out (by repeat (first | exact HAt.out | apply SI.drewN))).mono ?_; rintro e w1 ⟨rfl, hw1⟩; have A1 := Aside0.mk hw1; clear hw1)
        (try simp only [Exit.inBlock, Exit.then]); refine bodyPost_ret (results_none rfl _ _ _) rfl ?_
        refine ⟨rfl, ?_⟩
        rw [← A.out, pdq_small h12]
        exact A1.out
      · have h12z : ¬ ((b' : Int) - (a' : Int) ≤ 12) := by omega
        by_cases hl0 : lim = 0
        · subst hl0
          go_wp2_with (go_at_call 133; refine (CH.out a' b' hab' hb' _ dk HK.out (by repeat (first | exact HAt.out | apply SI.drewN))).mono ?_; rintro e w1 ⟨rfl, hw1⟩; have A1 := Aside0.mk hw1; clear hw1)
          (try simp only [Exit.inBlock, Exit.then]); refine bodyPost_ret (results_none rfl _ _ _) rfl ?_
          refine ⟨rfl, ?_⟩
          rw [← A.out, pdq_heap h12 rfl]
          exact A1.out
        · have hl0z : ¬ ((lim : Int) = 0) := by omega
          have hds := HK.out
          obtain ⟨s1, B1, hc1, s2, B2, hpv, s3, B3⟩ := rd_facts (lt := lt) (limit := lim) (wb := wb) (wp := wp) hO partialInsertionSort_holds reverseRange_holds (show a' < b' by omega) (show b' ≤ dk.size by omega) HBel.out
          have S1 := Lib.hid (s1.trans hds)
          have S2 := Lib.hid (s2.trans hds)
          have S3 := Lib.hid (s3.trans hds)
          have HB3 := Lib.hid B3
          clear s1 s2 s3 B1 B2 B3 hc1 hds
          go_upto_if 35 with fail
          go_cut [3] from 19 (fun s3 wc => s3 = .int .i64 (rd lt dk a' b' lim wb wp).lim ∧ Aside0 (SI enc w blk off (rd lt dk a' b' lim wb wp).d1 wc))
          case first =>
            cases wb
            · go_wp2_with (go_at_call 134; refine (CB.out a' b' hab' hb' _ dk HK.out (by repeat (first | exact HAt.out | apply SI.drewN))).mono ?_; rintro e w1 ⟨rfl, hw1⟩; have A1 := Aside0.mk hw1; clear hw1)
              go_meet
              case rel =>
                refine ⟨?_, A1⟩
                show Value.int .i64 ((lim : Int) - 1) = Value.int .i64 ((lim - 1 : Nat) : Int)
                congr 1
                omega
            · go_wp2_with fail
              go_meet
              case rel => exact ⟨rfl, ⟨by repeat (first | exact HAt.out | apply SI.drewN)⟩⟩
          case rest =>
            obtain ⟨rfl, HA1⟩ := hcut
            go_upto_if 50 with (go_at_call 135; refine (CC.out a' b' (by omega) hb' _ (rd lt dk a' b' lim wb wp).d1 S1.out (by repeat (first | exact HA1.out | apply SI.drewN))).mono ?_; rintro e w2 ⟨rfl, hw2⟩; have HA2 := Aside0.mk hw2; clear hw2)
            go_cut [11, 12] from 19 (fun s11 s12 wc => s11 = .int .i64 (rd lt dk a' b' lim wb wp).pivot ∧ s12 = .int .i64 (hintCode (rd lt dk a' b' lim wb wp).hint) ∧ Aside0 (SI enc w blk off (rd lt dk a' b' lim wb wp).d2 wc))
            case first =>
              by_cases hh : (rd lt dk a' b' lim wb wp).c.2 = .decreasing
              · have hcode : hintCode (rd lt dk a' b' lim wb wp).c.2 = 2 := by rw [hh]; rfl
                obtain ⟨e2, epv, eht⟩ := rd_dec hh
                have E2 := Lib.hid e2
                have EPV := Lib.hid epv
                have EHT := Lib.hid eht
                have hcc : (choosePivot lt (rd lt dk a' b' lim wb wp).d1 a' b').2 = .decreasing := hh
                have hcode' : hintCode (choosePivot lt (rd lt dk a' b' lim wb wp).d1 a' b').2 = 2 := hcode
                have HCB : a' ≤ (choosePivot lt (rd lt dk a' b' lim wb wp).d1 a' b').1 ∧ (choosePivot lt (rd lt dk a' b' lim wb wp).d1 a' b').1 < b' := choosePivot_holds lt _ _ _ (by omega)
                clear e2 epv eht hh hcode hcc
                go_wp2_with (go_at_call 136; refine (CR.out a' b' hab' hb' _ (rd lt dk a' b' lim wb wp).d1 S1.out (by repeat (first | exact HA2.out | apply SI.drewN))).mono ?_; rintro e w3 ⟨rfl, hw3⟩; have A3 := Aside0.mk hw3; clear hw3)
                go_meet
                case rel =>
                  refine ⟨?_, by rw [EHT.out]; rfl, by rw [E2.out]; exact A3⟩
                  rw [EPV.out]
                  congr 1
                  show _ = (((b' - 1) - ((choosePivot lt (rd lt dk a' b' lim wb wp).d1 a' b').1 - a') : Nat) : Int)
                  omega
              · have hcode' : ¬ (hintCode (choosePivot lt (rd lt dk a' b' lim wb wp).d1 a' b').2 = 2) := fun h => hh (hintCode_two h)
                obtain ⟨e2, epv, eht⟩ := rd_not hh
                have E2 := Lib.hid e2
                have EPV := Lib.hid epv
                have EHT := Lib.hid eht
                clear e2 epv eht hh
                go_wp2_with fail
                go_meet
                case rel => exact ⟨by rw [EPV.out]; rfl, by rw [EHT.out]; rfl, by rw [E2.out]; exact ⟨by repeat (first | exact HA2.out | apply SI.drewN)⟩⟩
            case rest =>
              obtain ⟨rfl, rfl, HA3⟩ := hcut
              go_upto_region 15 with fail
              go_cut [12, 68] from 19 (fun s12 s68 wx => s12 = .int .i64 (hintCode (rd lt dk a' b' lim wb wp).hint) ∧ s68 = .bool (wb && wp && decide ((rd lt dk a' b' lim wb wp).hint = .increasing)) ∧ wx = wc)
              case first =>
                cases wb <;> cases wp <;> cases hh3 : (rd lt dk a' b' lim _ _).hint <;>
                  (have hcode3 := congrArg hintCode hh3
                   simp only [hintCode] at hcode3
                   go_wp2_with fail
                   go_meet
                   exact ⟨by simp [hh3, hintCode], by simp [hh3, hintCode], rfl⟩)
              case rest =>
                obtain ⟨rfl, rfl, rfl⟩ := hcut
                go_upto_if 68 with fail
                go_cut [] from 19 (fun wx => Hid ((rd lt dk a' b' lim wb wp).pi.2 = false) ∧ Aside0 (SI enc w blk off (rd lt dk a' b' lim wb wp).pi.1 wx))
                case first =>
                  cases h68 : (wb && wp && decide ((rd lt dk a' b' lim wb wp).hint = .increasing))
                  · have EPI := Lib.hid (rd_pi_no h68)
                    go_wp2_with fail
                    go_meet
                    case rel => exact ⟨Lib.hid (by rw [EPI.out]), by rw [EPI.out]; exact ⟨by repeat (first | exact HA3.out | apply SI.drewN)⟩⟩
                  · have EPI := Lib.hid (rd_pi_yes h68)
                    cases hpp : (Sort.partialInsertionSort lt (rd lt dk a' b' lim wb wp).d2 a' b').2 with
                    | false =>
                      have HPP := Lib.hid hpp
                      have CP2 := Lib.hid (fun W2 h2 => CP.out a' b' (by omega) hb' W2 (rd lt dk a' b' lim wb wp).d2 S2.out h2)
                      rw [hpp] at CP2
                      clear hpp
                      go_wp2_with (go_at_call 137; refine (CP2.out _ (by repeat (first | exact HA3.out | apply SI.drewN))).mono ?_; rintro e w4 ⟨rfl, hw4⟩; have A4 := Aside0.mk hw4; clear hw4)
                      go_meet
                      case rel => exact ⟨Lib.hid (by rw [EPI.out]; exact HPP.out), by rw [EPI.out]; exact A4⟩
                    | true =>
                      have HPP := Lib.hid hpp
                      have CP2 := Lib.hid (fun W2 h2 => CP.out a' b' (by omega) hb' W2 (rd lt dk a' b' lim wb wp).d2 S2.out h2)
                      rw [hpp] at CP2
                      clear hpp
                      go_wp2_with (go_at_call 137; refine (CP2.out _ (by repeat (first | exact HA3.out | apply SI.drewN))).mono ?_; rintro e w4 ⟨rfl, hw4⟩; have A4 := Aside0.mk hw4; clear hw4)
                      (try simp only [Exit.inBlock, Exit.then]); refine bodyPost_ret (results_none rfl _ _ _) rfl ?_
                      refine ⟨rfl, ?_⟩
                      rw [← A.out, pdq_done h12 hl0 (by rw [EPI.out]; exact HPP.out), EPI.out]
                      exact A4.out
                case rest =>
                  obtain ⟨HP2, HA5⟩ := hcut
                  go_upto_region 17 with fail
                  go_cut [82] from 19 (fun s82 wx => s82 = .bool (decide (a' > 0) && !lt (rd lt dk a' b' lim wb wp).pi.1[a' - 1]! (rd lt dk a' b' lim wb wp).pi.1[(rd lt dk a' b' lim wb wp).pivot]!) ∧ Aside0 (SI enc w blk off (rd lt dk a' b' lim wb wp).pi.1 wx))
                  case first =>
                    rcases Nat.eq_zero_or_pos a' with ha0 | ha0
                    · have ha0z : decide ((a' : Int) > 0) = false := decide_eq_false (by omega)
                      go_wp2_with fail
                      go_meet
                      case rel => exact ⟨by simp [ha0], ⟨by repeat (first | exact HA5.out | apply SI.drewN)⟩⟩
                    · have ha0z : (a' : Int) > 0 := by omega
                      cases hlv : lt (rd lt dk a' b' lim wb wp).pi.1[a' - 1]! (rd lt dk a' b' lim wb wp).pi.1[(rd lt dk a' b' lim wb wp).pivot]! <;>
                        (have H1 := Lib.hid (lessAt HL.out S3.out (i := a' - 1) (j := (rd lt dk a' b' lim wb wp).pivot) (by omega) (by omega) hlv (I := (a' : Int) - 1) (J := ((rd lt dk a' b' lim wb wp).pivot : Int)) (by omega) rfl)
                         go_wp2_with (go_at_fn gl; refine (H1.out _ (by repeat (first | exact HA5.out | apply SI.drewN))).mono ?_; rintro e w1 ⟨rfl, hs1⟩; have A1 := Aside0.mk hs1; clear hs1)
                         go_meet
                         exact ⟨by simp [ha0, hlv], A1⟩)
                  case rest =>
                    obtain ⟨rfl, HA6⟩ := hcut
                    cases h87 : (decide (a' > 0) && !lt (rd lt dk a' b' lim wb wp).pi.1[a' - 1]! (rd lt dk a' b' lim wb wp).pi.1[(rd lt dk a' b' lim wb wp).pivot]!)
                    · obtain ⟨mid, ap, d4, hx⟩ : ∃ mid ap d4, partition lt (rd lt dk a' b' lim wb wp).pi.1 a' b' (rd lt dk a' b' lim wb wp).pivot = (mid, ap, d4) := ⟨(partition lt (rd lt dk a' b' lim wb wp).pi.1 a' b' (rd lt dk a' b' lim wb wp).pivot).1, (partition lt (rd lt dk a' b' lim wb wp).pi.1 a' b' (rd lt dk a' b' lim wb wp).pivot).2.1, (partition lt (rd lt dk a' b' lim wb wp).pi.1 a' b' (rd lt dk a' b' lim wb wp).pivot).2.2, rfl⟩
                      obtain ⟨r1, r2, r3, r4, r5, r6, r7⟩ := round_part hO (partition_holds lt) hpv.1 hpv.2 (show b' ≤ (rd lt dk a' b' lim wb wp).pi.1.size by rw [S3.out]; omega) HB3.out hx
                      have CT2 := Lib.hid (fun W2 h2 => CT.out a' b' (rd lt dk a' b' lim wb wp).pivot hpv.1 hpv.2 hb' W2 (rd lt dk a' b' lim wb wp).pi.1 S3.out h2)
                      rw [hx] at CT2
                      have X := Lib.hid hx
                      have S4 := Lib.hid (r3.trans S3.out)
                      have R4 := Lib.hid r4
                      have R5 := Lib.hid r5
                      have R6 := Lib.hid r6
                      have R7 := Lib.hid r7
                      have H87 := Lib.hid h87
                      clear hx r3 r4 r5 r6 r7 h87
                      go_upto_if 108 with (go_at_call 139; refine (CT2.out _ (by repeat (first | exact HA6.out | apply SI.drewN))).mono ?_; rintro e w7 ⟨rfl, hw7⟩; have HA7 := Aside0.mk hw7; clear hw7)
                      by_cases h4 : mid - a' < b' - mid
                      · have h4z : (mid : Int) - (a' : Int) < (b' : Int) - (mid : Int) := by omega
                        have I2 := Lib.hid (fun W2 h2 => IH.out a' mid (rd lt dk a' b' lim wb wp).lim d4 W2 (by omega) h2 S4.out (by omega) (by omega) (Nat.lt_of_le_of_lt (Nat.le_trans rd_lim_le hlim) hlimit) R4.out)
                        obtain ⟨pL, sL⟩ := pdq_sorts lt hO d4 a' mid (rd lt dk a' b' lim wb wp).lim true true (by omega) (by rw [S4.out]; omega) R4.out
                        have PL := Lib.hid pL
                        have SL := Lib.hid sL
                        clear pL sL
                        go_wp2_with (go_at_call 124; refine (I2.out _ (by repeat (first | exact HA7.out | apply SI.drewN))).mono ?_; rintro e w8 ⟨rfl, hw8⟩; have A8 := Aside0.mk hw8; clear hw8)
                        go_roundg (b' - (mid + 1))
                        case measure => omega
                        case rel =>
                          refine ⟨mid + 1, b', (rd lt dk a' b' lim wb wp).lim, decide (mid - a' ≥ (b' - a') / 8), ap, pdq lt d4 a' mid (rd lt dk a' b' lim wb wp).lim true true, by simp, rfl, rfl, ?_, rfl, by omega, by omega, Nat.le_refl _, by omega, Nat.le_trans rd_lim_le hlim, Lib.hid (by rw [PL.out.1, S4.out]), Lib.hid (R6.out _ PL.out SL.out).1, A8, Lib.hid ?_⟩
                          · exact congrArg Value.bool (eighth (by omega) (by omega))
                          · rw [← A.out, pdq_left h12 hl0 HP2.out H87.out (by rw [X.out]; exact ⟨r1, r2⟩) (by rw [X.out]; exact h4), X.out]
                      · have h4z : ¬ ((mid : Int) - (a' : Int) < (b' : Int) - (mid : Int)) := by omega
                        have I2 := Lib.hid (fun W2 h2 => IH.out (mid + 1) b' (rd lt dk a' b' lim wb wp).lim d4 W2 (by omega) h2 S4.out (by omega) (by omega) (Nat.lt_of_le_of_lt (Nat.le_trans rd_lim_le hlim) hlimit) R5.out)
                        rw [show ((mid + 1 : Nat) : Int) = (mid : Int) + 1 by omega] at I2
                        obtain ⟨pL, sL⟩ := pdq_sorts lt hO d4 (mid + 1) b' (rd lt dk a' b' lim wb wp).lim true true (by omega) (by rw [S4.out]; omega) R5.out
                        have PL := Lib.hid pL
                        have SL := Lib.hid sL
                        clear pL sL
                        go_wp2_with (go_at_call 124; refine (I2.out _ (by repeat (first | exact HA7.out | apply SI.drewN))).mono ?_; rintro e w8 ⟨rfl, hw8⟩; have A8 := Aside0.mk hw8; clear hw8)
                        go_roundg (mid - a')
                        case measure => omega
                        case rel =>
                          refine ⟨a', mid, (rd lt dk a' b' lim wb wp).lim, decide (b' - mid ≥ (b' - a') / 8), ap, pdq lt d4 (mid + 1) b' (rd lt dk a' b' lim wb wp).lim true true, rfl, rfl, rfl, ?_, rfl, by omega, by omega, Nat.le_refl _, by omega, Nat.le_trans rd_lim_le hlim, Lib.hid (by rw [PL.out.1, S4.out]), Lib.hid (R7.out _ PL.out SL.out).1, A8, Lib.hid ?_⟩
                          · exact congrArg Value.bool (eighth (by omega) (by omega))
                          · rw [← A.out, pdq_right h12 hl0 HP2.out H87.out (by rw [X.out]; exact ⟨r1, r2⟩) (by rw [X.out]; exact h4), X.out]
                    · have h87' := h87
                      simp only [Bool.and_eq_true, decide_eq_true_eq, Bool.not_eq_true'] at h87'
                      obtain ⟨mid, d4, hx⟩ : ∃ mid d4, partitionEqual lt (rd lt dk a' b' lim wb wp).pi.1 a' b' (rd lt dk a' b' lim wb wp).pivot = (mid, d4) := ⟨(partitionEqual lt (rd lt dk a' b' lim wb wp).pi.1 a' b' (rd lt dk a' b' lim wb wp).pivot).1, (partitionEqual lt (rd lt dk a' b' lim wb wp).pi.1 a' b' (rd lt dk a' b' lim wb wp).pivot).2, rfl⟩
                      obtain ⟨r1, r2, r3, r4, _⟩ := round_eq hO (partitionEqual_holds lt) h87'.1 hpv.1 hpv.2 (show b' ≤ (rd lt dk a' b' lim wb wp).pi.1.size by rw [S3.out]; omega) HB3.out h87'.2 hx
                      have CE2 := Lib.hid (fun W2 h2 => CE.out a' b' (rd lt dk a' b' lim wb wp).pivot hpv.1 hpv.2 hb' W2 (rd lt dk a' b' lim wb wp).pi.1 S3.out h2)
                      rw [hx] at CE2
                      have X := Lib.hid hx
                      have S4 := Lib.hid (r3.trans S3.out)
                      have R4 := Lib.hid r4
                      have H87 := Lib.hid h87
                      clear hx r3 r4 h87 h87'
                      go_wp2_with (go_at_call 138; refine (CE2.out _ (by repeat (first | exact HA6.out | apply SI.drewN))).mono ?_; rintro e w7 ⟨rfl, hw7⟩; have A7 := Aside0.mk hw7; clear hw7)
                      go_roundg (b' - mid)
                      case measure => omega
                      case rel =>
                        exact ⟨mid, b', (rd lt dk a' b' lim wb wp).lim, wb, wp, d4, rfl, rfl, rfl, rfl, rfl, r2, hb', Nat.le_refl _, by omega, Nat.le_trans rd_lim_le hlim, S4, R4, A7, Lib.hid (by rw [← A.out, pdq_eq h12 hl0 HP2.out H87.out (by rw [X.out]; exact ⟨r1, r2⟩), X.out])⟩
set_option maxHeartbeats 2000000 in
theorem sort_any {T : TypeId} {rv : Value} {gn gl gs : Nat} (hm : Meth T rv gn gl gs) (enc : α → Value) (lt : α → α → Bool) (hO : SWO lt) (w : World) (blk off n : Nat) (hl : LessC gl rv enc lt w blk off n) (hs : ∀ w', SwapC gs rv enc w' blk off n) (h2 : 2 ≤ n) (hn : n < 50)
    (hlen : ∀ W, Calls Tryz.prog gn #[rv] W fun e w' => e = .returned (.int .i64 n) ∧ Drawn0 W w') (d : Array α) (hd : d.size = n) (hH : Holds enc w blk off d) (hb : blk < w.heap.size) :
    Calls Tryz.prog 102 #[.iface T rv] w fun e w' => e = .returned (.tuple #[]) ∧ ∃ d', PermIn 0 n d d' ∧ SortedIn lt 0 n d' ∧ SI enc w blk off d' w' := by
  have hlim : Lib.bitLen n < 4611686018427387904 := Nat.lt_of_le_of_lt (Lib.bitLen_le n 62 (by omega) (by omega)) (by omega)
  have HP := Lib.hid (fun W2 h2 => pdq_any hm enc lt hO w blk off n hl hs hn (n + 1) 0 n (Lib.bitLen n) d W2 (by omega) h2 hd (Nat.zero_le _) (Nat.le_refl _) hlim (Or.inl rfl))
  have HF := Lib.hid (pdq_sorts lt hO d 0 n (Lib.bitLen n) true true (Nat.zero_le _) (by omega) (Or.inl rfl))
  have HW := Aside0.mk (SI.mk (World.grownBy.refl w (some blk)) hH hb)
  have HL := Lib.hid hlen
  have HBL := Lib.hid (fun W => bitsLen_any n (by omega) W)
  have mN := hm.n
  have eN := hm.en
  have d1 : decide ((n : Int) ≤ 1) = false := decide_eq_false (by omega)
  clear hd hl hs hm hlen hH hb hlim
  go_enter Tryz.func102, Tryz.ntmps102
  go_wp2_with (first
    | (go_at_fn gn; refine (HL.out _).mono ?_; rintro e w1 ⟨rfl, ⟨q1, rfl⟩⟩)
    | (go_at_call 123; ((with_reducible refine (HBL.out _).mono ?_); rintro e w1 ⟨rfl, ⟨q2, rfl⟩⟩))
    | (go_at_call 124; refine (HP.out _ (by repeat (first | exact HW.out | apply SI.drewN))).mono ?_; rintro e w1 ⟨rfl, hs1⟩; have HW1 := Aside0.mk hs1; clear hs1))
  go_end0
  exact ⟨rfl, _, HF.out.1, HF.out.2, HW1.out⟩
end Go.Proofs.YtgoeiflddikihaaGreatDoor.Srt
end
