/- Merged by program out of: Sort6. -/
import Derived.Test.YtgoeiflddikihaaGreatDoorCsoM15
import Derived.Shelf.GgSortFunc.Partition
section
namespace Go.Proofs.YtgoeiflddikihaaGreatDoor.Srt
open Go.RowKit Go.Proofs.YtgoeiflddikihaaGreatDoorW.PrintWords Go.Sort
variable {α : Type} [Inhabited α]
set_option maxHeartbeats 12800000 in
set_option maxRecDepth 100000 in
theorem partEq_any {T : TypeId} {rv : Value} {gn gl gs : Nat} (hm : Meth T rv gn gl gs) (enc : α → Value) (lt : α → α → Bool) (w : World) (blk off n : Nat) (hl : LessC gl rv enc lt w blk off n) (hs : SwapC gs rv enc w blk off n) (hn : n < 4611686018427387904)
  (a b pivot : Nat) (hap : a ≤ pivot) (hpb : pivot < b) (hb : b ≤ n) (W : World) (d : Array α) (hd : d.size = n) (hW : SI enc w blk off d W) :
  Calls Tryz.prog 138 #[.iface T rv, .int .i64 a, .int .i64 b, .int .i64 pivot] W fun e w' => e = .returned (.int .i64 (Sort.partitionEqual lt d a b pivot).1) ∧ SI enc w blk off (Sort.partitionEqual lt d a b pivot).2 w' := by
 have mL := hm.l
 have mS := hm.s
 have eL := hm.el
 have eS := hm.es
 have HW := Aside0.mk hW
 have HD := Lib.hid hd
 have HL := Lib.hid hl
 have HS := Lib.hid hs
 have H0 := Lib.hid (swapAt hs hd (i := a) (j := pivot) (by omega) (by omega) (I := (a : Int)) (J := (pivot : Int)) rfl rfl)
 clear hW hd hm hl hs
 go_enter Tryz.func138, Tryz.ntmps138
 go_wp2_with (go_at_fn gs; refine (H0.out _ (by repeat (first | exact HW.out | apply SI.drewN))).mono ?_; rintro e W0 ⟨rfl, hs0⟩; have A0 := Aside0.mk hs0; clear hs0)
 go_loopw [9, 10] (fun vi vj wr => ∃ (i j : Nat) (dk : Array α), vi = .int .i64 i ∧ vj = .int .i64 j ∧ a < i ∧ i ≤ j + 1 ∧ j < b ∧ Hid (dk.size = n) ∧ Aside0 (SI enc w blk off dk wr) ∧
   Hid (Sort.partEqLoop lt a i j dk = Sort.partEqLoop lt a (a + 1) (b - 1) (Sort.swp d a pivot)))
  (fun vi vj _ => (intOf vj).toNat + 1 - (intOf vi).toNat)
 case atStart => exact ⟨a + 1, b - 1, Sort.swp d a pivot, by go_num, by go_num, by omega, by omega, by omega, Lib.hid (by rw [swp_size]; exact HD.out), A0, Lib.hid rfl⟩
 case round =>
  clear A0 H0
  obtain ⟨i, j, dk, rfl, rfl, hai, hij, hjb, HK, SA, AE⟩ := hrel
  rename World => W1
  go_wp2
  go_loopw [9] (fun vi w1 => ∃ (i' : Nat), vi = .int .i64 i' ∧ i ≤ i' ∧ i' ≤ j + 1 ∧ Aside0 (SI enc w blk off dk w1) ∧
    Hid (Sort.scanUp (fun x => !lt dk[a]! x) dk j i' = Sort.scanUp (fun x => !lt dk[a]! x) dk j i))
   (fun vi _ => j + 1 - (intOf vi).toNat)
  case atStart => exact ⟨i, rfl, Nat.le_refl _, hij, SA, Lib.hid rfl⟩
  case round =>
   obtain ⟨i', rfl, hii, hij', S, hsc⟩ := hrel
   by_cases hle : i' ≤ j
   ·cases hlv : lt dk[a]! dk[i']! with
    | false =>
     have H1 := Lib.hid (lessAt HL.out HK.out (i := a) (j := i') (by omega) (by omega) hlv (I := (a : Int)) (J := (i' : Int)) rfl rfl)
     have HQ := Lib.hid hlv
     clear hlv
     go_wp2_with (go_at_fn gl; refine (H1.out _ (by repeat (first | exact S.out | apply SI.drewN))).mono ?_; rintro e w1 ⟨rfl, hs1⟩; have A1 := Aside0.mk hs1; clear hs1)
     go_roundw
     case rel => exact ⟨i' + 1, by go_num, by omega, by omega, A1, Lib.hid ((scanUp_go (fun x => !lt dk[a]! x) dk j i' hle (by simp [HQ.out])).symm.trans hsc.out)⟩
     case measure => simp [intOf]; omega
    | true =>
     have H1 := Lib.hid (lessAt HL.out HK.out (i := a) (j := i') (by omega) (by omega) hlv (I := (a : Int)) (J := (i' : Int)) rfl rfl)
     have hi2 : Hid (i' = Sort.scanUp (fun x => !lt dk[a]! x) dk j i) := Lib.hid ((scanUp_end (fun x => !lt dk[a]! x) dk j i' (Or.inr (by simp [hlv]))).symm.trans hsc.out)
     clear hlv hsc
     go_wp2_with (go_at_fn gl; refine (H1.out _ (by repeat (first | exact S.out | apply SI.drewN))).mono ?_; rintro e w1 ⟨rfl, hs1⟩; have A1 := Aside0.mk hs1; clear hs1)
     go_loopw [10] (fun vj w2 => ∃ (j' : Nat), vj = .int .i64 j' ∧ j' ≤ j ∧ i' ≤ j' + 1 ∧ Aside0 (SI enc w blk off dk w2) ∧
       Hid (Sort.scanDown (fun x => lt dk[a]! x) dk i' j' = Sort.scanDown (fun x => lt dk[a]! x) dk i' j))
      (fun vj _ => (intOf vj).toNat)
     case atStart => exact ⟨j, rfl, Nat.le_refl _, hij', A1, Lib.hid rfl⟩
     case round =>
      obtain ⟨j', rfl, hjj, hij2, S, hsd⟩ := hrel
      by_cases hle2 : i' ≤ j'
      ·cases hlv2 : lt dk[a]! dk[j']! with
       | true =>
        have H1 := Lib.hid (lessAt HL.out HK.out (i := a) (j := j') (by omega) (by omega) hlv2 (I := (a : Int)) (J := (j' : Int)) rfl rfl)
        have HQ := Lib.hid hlv2
        clear hlv2
        go_wp2_with (go_at_fn gl; refine (H1.out _ (by repeat (first | exact S.out | apply SI.drewN))).mono ?_; rintro e w1 ⟨rfl, hs1⟩; have A1 := Aside0.mk hs1; clear hs1)
        go_roundw
        case rel => exact ⟨j' - 1, by go_num, by omega, by omega, A1, Lib.hid ((scanDown_go (fun x => lt dk[a]! x) dk i' j' hle2 (by omega) HQ.out).symm.trans hsd.out)⟩
        case measure => simp [intOf]; omega
       | false =>
        have H1 := Lib.hid (lessAt HL.out HK.out (i := a) (j := j') (by omega) (by omega) hlv2 (I := (a : Int)) (J := (j' : Int)) rfl rfl)
        have hj2 : Hid (j' = Sort.scanDown (fun x => lt dk[a]! x) dk i' j) := Lib.hid ((scanDown_end (fun x => lt dk[a]! x) dk i' j' (Or.inr hlv2)).symm.trans hsd.out)
        have hlt3 := scans_lt lt a i j dk (by omega) hi2.out hj2.out hle2
        have H3 := Lib.hid (swapAt HS.out HK.out (i := i') (j := j') (by omega) (by omega) (I := (i' : Int)) (J := (j' : Int)) rfl rfl)
        clear hlv2 hsd
        go_wp2_with (first
         | (go_at_fn gl; refine (H1.out _ (by repeat (first | exact S.out | apply SI.drewN))).mono ?_; rintro e w1 ⟨rfl, hs1⟩; have A1 := Aside0.mk hs1; clear hs1)
         | (go_at_fn gs; refine (H3.out _ (by repeat (first | exact A1.out | apply SI.drewN))).mono ?_; rintro e w3 ⟨rfl, hs3⟩; have A3 := Aside0.mk hs3; clear hs3))
        go_roundw
        case rel => exact ⟨i' + 1, j' - 1, Sort.swp dk i' j', by go_num, by go_num, by omega, by omega, by omega, Lib.hid (by rw [swp_size]; exact HK.out), A3, Lib.hid (by rw [← AE.out]; exact (partEq_go lt a i j dk hi2.out hj2.out (by omega)).symm)⟩
        case measure => simp [intOf]; omega
      ·have hj2 : Hid (j' = Sort.scanDown (fun x => lt dk[a]! x) dk i' j) := Lib.hid ((scanDown_end (fun x => lt dk[a]! x) dk i' j' (Or.inl hle2)).symm.trans hsd.out)
       clear hsd
       go_wp2
       go_ret
       have e := partEq_break lt a i j dk hi2.out hj2.out (by omega)
       refine ⟨?_, ?_⟩
       ·unfold Sort.partitionEqual; rw [← AE.out, e]; rfl
       ·unfold Sort.partitionEqual; rw [← AE.out, e]; exact S.out
   ·have hi2 : Hid (i' = Sort.scanUp (fun x => !lt dk[a]! x) dk j i) := Lib.hid ((scanUp_end (fun x => !lt dk[a]! x) dk j i' (Or.inl hle)).symm.trans hsc.out)
    clear hsc
    go_wp2
    go_loopw [10] (fun vj w2 => ∃ (j' : Nat), vj = .int .i64 j' ∧ j' ≤ j ∧ i' ≤ j' + 1 ∧ Aside0 (SI enc w blk off dk w2) ∧
      Hid (Sort.scanDown (fun x => lt dk[a]! x) dk i' j' = Sort.scanDown (fun x => lt dk[a]! x) dk i' j))
     (fun vj _ => (intOf vj).toNat)
    case atStart => exact ⟨j, rfl, Nat.le_refl _, hij', S, Lib.hid rfl⟩
    case round =>
     obtain ⟨j', rfl, hjj, hij2, S, hsd⟩ := hrel
     by_cases hle2 : i' ≤ j'
     ·exfalso; omega
     ·have hj2 : Hid (j' = Sort.scanDown (fun x => lt dk[a]! x) dk i' j) := Lib.hid ((scanDown_end (fun x => lt dk[a]! x) dk i' j' (Or.inl hle2)).symm.trans hsd.out)
      clear hsd
      go_wp2
      go_ret
      have e := partEq_break lt a i j dk hi2.out hj2.out (by omega)
      refine ⟨?_, ?_⟩
      ·unfold Sort.partitionEqual; rw [← AE.out, e]; rfl
      ·unfold Sort.partitionEqual; rw [← AE.out, e]; exact S.out
set_option maxHeartbeats 12800000 in
set_option maxRecDepth 100000 in
theorem part_any {T : TypeId} {rv : Value} {gn gl gs : Nat} (hm : Meth T rv gn gl gs) (enc : α → Value) (lt : α → α → Bool) (w : World) (blk off n : Nat) (hl : LessC gl rv enc lt w blk off n) (hs : SwapC gs rv enc w blk off n) (hn : n < 4611686018427387904)
  (a b pivot : Nat) (hap : a ≤ pivot) (hpb : pivot < b) (hb : b ≤ n) (W : World) (d : Array α) (hd : d.size = n) (hW : SI enc w blk off d W) :
  Calls Tryz.prog 139 #[.iface T rv, .int .i64 a, .int .i64 b, .int .i64 pivot] W fun e w' => e = .returned (.tuple #[.int .i64 (Sort.partition lt d a b pivot).1, .bool (Sort.partition lt d a b pivot).2.1]) ∧ SI enc w blk off (Sort.partition lt d a b pivot).2.2 w' := by
 have mL := hm.l
 have mS := hm.s
 have eL := hm.el
 have eS := hm.es
 have HW := Aside0.mk hW
 have HD := Lib.hid hd
 have HL := Lib.hid hl
 have HS := Lib.hid hs
 have H0 := Lib.hid (swapAt hs hd (i := a) (j := pivot) (by omega) (by omega) (I := (a : Int)) (J := (pivot : Int)) rfl rfl)
 clear hW hd hm hl hs
 obtain ⟨i, hi⟩ : ∃ i : Nat, i = a + 1 := ⟨_, rfl⟩
 obtain ⟨j, hj⟩ : ∃ j : Nat, j = b - 1 := ⟨_, rfl⟩
 obtain ⟨dk, hdk⟩ : ∃ dk : Array α, dk = Sort.swp d a pivot := ⟨_, rfl⟩
 have HK : Hid (dk.size = n) := Lib.hid (by rw [hdk, swp_size]; exact HD.out)
 have hai : a < i := by omega
 have hij : i ≤ j + 1 := by omega
 have hjb : j < b := by omega
 rw [← hdk] at H0
 have Hi : Hid (i = a + 1) := Lib.hid hi
 have Hj : Hid (j = b - 1) := Lib.hid hj
 have Hdk : Hid (dk = Sort.swp d a pivot) := Lib.hid hdk
 clear hi hj hdk
 go_enter Tryz.func139, Tryz.ntmps139
 go_wp2_with (go_at_fn gs; refine (H0.out _ (by repeat (first | exact HW.out | apply SI.drewN))).mono ?_; rintro e W1 ⟨rfl, hs0⟩; have SA := Aside0.mk hs0; clear hs0)
 rw [show ((a : Int) + 1) = (i : Int) by have := Hi.out; omega, show ((b : Int) - 1) = (j : Int) by have := Hj.out; omega]
 clear H0
 go_loopw [10] (fun vi w1 => ∃ (i' : Nat), vi = .int .i64 i' ∧ i ≤ i' ∧ i' ≤ j + 1 ∧ Aside0 (SI enc w blk off dk w1) ∧
   Hid (Sort.scanUp (fun x => lt x dk[a]!) dk j i' = Sort.scanUp (fun x => lt x dk[a]!) dk j i))
  (fun vi _ => j + 1 - (intOf vi).toNat)
 case atStart => exact ⟨i, rfl, Nat.le_refl _, hij, SA, Lib.hid rfl⟩
 case round =>
  obtain ⟨i', rfl, hii, hij', S, hsc⟩ := hrel
  by_cases hle : i' ≤ j
  ·cases hlv : lt dk[i']! dk[a]! with
   | true =>
    have H1 := Lib.hid (lessAt HL.out HK.out (i := i') (j := a) (by omega) (by omega) hlv (I := (i' : Int)) (J := (a : Int)) rfl rfl)
    have HQ := Lib.hid hlv
    clear hlv
    go_wp2_with (go_at_fn gl; refine (H1.out _ (by repeat (first | exact S.out | apply SI.drewN))).mono ?_; rintro e w1 ⟨rfl, hs1⟩; have A1 := Aside0.mk hs1; clear hs1)
    go_roundw
    case rel => exact ⟨i' + 1, by go_num, by omega, by omega, A1, Lib.hid ((scanUp_go (fun x => lt x dk[a]!) dk j i' hle HQ.out).symm.trans hsc.out)⟩
    case measure => simp [intOf]; omega
   | false =>
    have H1 := Lib.hid (lessAt HL.out HK.out (i := i') (j := a) (by omega) (by omega) hlv (I := (i' : Int)) (J := (a : Int)) rfl rfl)
    have hi2 : Hid (i' = Sort.scanUp (fun x => lt x dk[a]!) dk j i) := Lib.hid ((scanUp_end (fun x => lt x dk[a]!) dk j i' (Or.inr hlv)).symm.trans hsc.out)
    clear hlv hsc
    go_wp2_with (go_at_fn gl; refine (H1.out _ (by repeat (first | exact S.out | apply SI.drewN))).mono ?_; rintro e w1 ⟨rfl, hs1⟩; have A1 := Aside0.mk hs1; clear hs1)
    go_loopw [11] (fun vj w2 => ∃ (j' : Nat), vj = .int .i64 j' ∧ j' ≤ j ∧ i' ≤ j' + 1 ∧ Aside0 (SI enc w blk off dk w2) ∧
      Hid (Sort.scanDown (fun x => !lt x dk[a]!) dk i' j' = Sort.scanDown (fun x => !lt x dk[a]!) dk i' j))
     (fun vj _ => (intOf vj).toNat)
    case atStart => exact ⟨j, rfl, Nat.le_refl _, hij', A1, Lib.hid rfl⟩
    case round =>
     obtain ⟨j', rfl, hjj, hij2, S, hsd⟩ := hrel
     by_cases hle2 : i' ≤ j'
     ·cases hlv2 : lt dk[j']! dk[a]! with
      | false =>
       have H1 := Lib.hid (lessAt HL.out HK.out (i := j') (j := a) (by omega) (by omega) hlv2 (I := (j' : Int)) (J := (a : Int)) rfl rfl)
       have HQ := Lib.hid hlv2
       clear hlv2
       go_wp2_with (go_at_fn gl; refine (H1.out _ (by repeat (first | exact S.out | apply SI.drewN))).mono ?_; rintro e w1 ⟨rfl, hs1⟩; have A1 := Aside0.mk hs1; clear hs1)
       go_roundw
       case rel => exact ⟨j' - 1, by go_num, by omega, by omega, A1, Lib.hid ((scanDown_go (fun x => !lt x dk[a]!) dk i' j' hle2 (by omega) (by simp [HQ.out])).symm.trans hsd.out)⟩
       case measure => simp [intOf]; omega
      | true =>
       have H1 := Lib.hid (lessAt HL.out HK.out (i := j') (j := a) (by omega) (by omega) hlv2 (I := (j' : Int)) (J := (a : Int)) rfl rfl)
       have hj2 : Hid (j' = Sort.scanDown (fun x => !lt x dk[a]!) dk i' j) := Lib.hid ((scanDown_end (fun x => !lt x dk[a]!) dk i' j' (Or.inr (by simp [hlv2]))).symm.trans hsd.out)
       have hlt3 := part_scans_lt lt a i j dk (by omega) hi2.out hj2.out hle2
       have H3 := Lib.hid (swapAt HS.out HK.out (i := i') (j := j') (by omega) (by omega) (I := (i' : Int)) (J := (j' : Int)) rfl rfl)
       clear hlv2 hsd
       go_wp2_with (first
        | (go_at_fn gl; refine (H1.out _ (by repeat (first | exact S.out | apply SI.drewN))).mono ?_; rintro e w1 ⟨rfl, hs1⟩; have A1 := Aside0.mk hs1; clear hs1)
        | (go_at_fn gs; refine (H3.out _ (by repeat (first | exact A1.out | apply SI.drewN))).mono ?_; rintro e w3 ⟨rfl, hs3⟩; have A3 := Aside0.mk hs3; clear hs3))
       (try rw [decide_eq_false (show ¬ j' < i' by omega)])
       obtain ⟨I0, hI0⟩ : ∃ I0 : Nat, I0 = i' + 1 := ⟨_, rfl⟩
       obtain ⟨J0, hJ0⟩ : ∃ J0 : Nat, J0 = j' - 1 := ⟨_, rfl⟩
       obtain ⟨D0, hD0⟩ : ∃ D0 : Array α, D0 = Sort.swp dk i' j' := ⟨_, rfl⟩
       have PF : Hid (Sort.partition lt d a b pivot = ((Sort.partLoop lt a I0 J0 D0).1, false, Sort.swp (Sort.partLoop lt a I0 J0 D0).2 (Sort.partLoop lt a I0 J0 D0).1 a)) := Lib.hid (by
        rw [hI0, hJ0, hD0]; exact part_first_go lt d a b pivot Hi.out Hj.out Hdk.out hi2.out hj2.out (by omega))
       have HE0 := Lib.hid (show Sort.partLoop lt a (i' + 1) (j' - 1) (Sort.swp dk i' j') = Sort.partLoop lt a I0 J0 D0 by rw [hI0, hJ0, hD0])
       clear hI0 hJ0 hD0
       go_loopw [10, 11] (fun vi vj wr => ∃ (i j : Nat) (dk : Array α), vi = .int .i64 i ∧ vj = .int .i64 j ∧ a < i ∧ i ≤ j + 1 ∧ j < b ∧ Hid (dk.size = n) ∧ Aside0 (SI enc w blk off dk wr) ∧
         Hid (Sort.partLoop lt a i j dk = Sort.partLoop lt a I0 J0 D0))
        (fun vi vj _ => (intOf vj).toNat + 1 - (intOf vi).toNat)
       case atStart => exact ⟨i' + 1, j' - 1, Sort.swp dk i' j', by go_num, by go_num, by omega, by omega, by omega, Lib.hid (by rw [swp_size]; exact HK.out), A3, HE0⟩
       case round =>
        clear HE0 H1 H3 A1 A3 S hj2 hi2 hlt3 Hi Hj Hdk HK SA
        obtain ⟨i, j, dk, rfl, rfl, hai, hij, hjb, HK, SA, AE⟩ := hrel
        rename World => W1
        go_wp2
        go_loopw [10] (fun vi w1 => ∃ (i' : Nat), vi = .int .i64 i' ∧ i ≤ i' ∧ i' ≤ j + 1 ∧ Aside0 (SI enc w blk off dk w1) ∧
          Hid (Sort.scanUp (fun x => lt x dk[a]!) dk j i' = Sort.scanUp (fun x => lt x dk[a]!) dk j i))
         (fun vi _ => j + 1 - (intOf vi).toNat)
        case atStart => exact ⟨i, rfl, Nat.le_refl _, hij, SA, Lib.hid rfl⟩
        case round =>
         obtain ⟨i', rfl, hii, hij', S, hsc⟩ := hrel
         by_cases hle : i' ≤ j
         ·cases hlv : lt dk[i']! dk[a]! with
          | true =>
           have H1 := Lib.hid (lessAt HL.out HK.out (i := i') (j := a) (by omega) (by omega) hlv (I := (i' : Int)) (J := (a : Int)) rfl rfl)
           have HQ := Lib.hid hlv
           clear hlv
           go_wp2_with (go_at_fn gl; refine (H1.out _ (by repeat (first | exact S.out | apply SI.drewN))).mono ?_; rintro e w1 ⟨rfl, hs1⟩; have A1 := Aside0.mk hs1; clear hs1)
           go_roundw
           case rel => exact ⟨i' + 1, by go_num, by omega, by omega, A1, Lib.hid ((scanUp_go (fun x => lt x dk[a]!) dk j i' hle HQ.out).symm.trans hsc.out)⟩
           case measure => simp [intOf]; omega
          | false =>
           have H1 := Lib.hid (lessAt HL.out HK.out (i := i') (j := a) (by omega) (by omega) hlv (I := (i' : Int)) (J := (a : Int)) rfl rfl)
           have hi2 : Hid (i' = Sort.scanUp (fun x => lt x dk[a]!) dk j i) := Lib.hid ((scanUp_end (fun x => lt x dk[a]!) dk j i' (Or.inr hlv)).symm.trans hsc.out)
           clear hlv hsc
           go_wp2_with (go_at_fn gl; refine (H1.out _ (by repeat (first | exact S.out | apply SI.drewN))).mono ?_; rintro e w1 ⟨rfl, hs1⟩; have A1 := Aside0.mk hs1; clear hs1)
           go_loopw [11] (fun vj w2 => ∃ (j' : Nat), vj = .int .i64 j' ∧ j' ≤ j ∧ i' ≤ j' + 1 ∧ Aside0 (SI enc w blk off dk w2) ∧
             Hid (Sort.scanDown (fun x => !lt x dk[a]!) dk i' j' = Sort.scanDown (fun x => !lt x dk[a]!) dk i' j))
            (fun vj _ => (intOf vj).toNat)
           case atStart => exact ⟨j, rfl, Nat.le_refl _, hij', A1, Lib.hid rfl⟩
           case round =>
            obtain ⟨j', rfl, hjj, hij2, S, hsd⟩ := hrel
            by_cases hle2 : i' ≤ j'
            ·cases hlv2 : lt dk[j']! dk[a]! with
             | false =>
              have H1 := Lib.hid (lessAt HL.out HK.out (i := j') (j := a) (by omega) (by omega) hlv2 (I := (j' : Int)) (J := (a : Int)) rfl rfl)
              have HQ := Lib.hid hlv2
              clear hlv2
              go_wp2_with (go_at_fn gl; refine (H1.out _ (by repeat (first | exact S.out | apply SI.drewN))).mono ?_; rintro e w1 ⟨rfl, hs1⟩; have A1 := Aside0.mk hs1; clear hs1)
              go_roundw
              case rel => exact ⟨j' - 1, by go_num, by omega, by omega, A1, Lib.hid ((scanDown_go (fun x => !lt x dk[a]!) dk i' j' hle2 (by omega) (by simp [HQ.out])).symm.trans hsd.out)⟩
              case measure => simp [intOf]; omega
             | true =>
              have H1 := Lib.hid (lessAt HL.out HK.out (i := j') (j := a) (by omega) (by omega) hlv2 (I := (j' : Int)) (J := (a : Int)) rfl rfl)
              have hj2 : Hid (j' = Sort.scanDown (fun x => !lt x dk[a]!) dk i' j) := Lib.hid ((scanDown_end (fun x => !lt x dk[a]!) dk i' j' (Or.inr (by simp [hlv2]))).symm.trans hsd.out)
              have hlt3 := part_scans_lt lt a i j dk (by omega) hi2.out hj2.out hle2
              have H3 := Lib.hid (swapAt HS.out HK.out (i := i') (j := j') (by omega) (by omega) (I := (i' : Int)) (J := (j' : Int)) rfl rfl)
              clear hlv2 hsd
              go_wp2_with (first
               | (go_at_fn gl; refine (H1.out _ (by repeat (first | exact S.out | apply SI.drewN))).mono ?_; rintro e w1 ⟨rfl, hs1⟩; have A1 := Aside0.mk hs1; clear hs1)
               | (go_at_fn gs; refine (H3.out _ (by repeat (first | exact A1.out | apply SI.drewN))).mono ?_; rintro e w3 ⟨rfl, hs3⟩; have A3 := Aside0.mk hs3; clear hs3))
              go_roundw
              case rel => exact ⟨i' + 1, j' - 1, Sort.swp dk i' j', by go_num, by go_num, by omega, by omega, by omega, Lib.hid (by rw [swp_size]; exact HK.out), A3, Lib.hid (by rw [← AE.out]; exact (part_go lt a i j dk hi2.out hj2.out (by omega)).symm)⟩
              case measure => simp [intOf]; omega
            ·have hj2 : Hid (j' = Sort.scanDown (fun x => !lt x dk[a]!) dk i' j) := Lib.hid ((scanDown_end (fun x => !lt x dk[a]!) dk i' j' (Or.inl hle2)).symm.trans hsd.out)
             clear hsd
             have H3 := Lib.hid (swapAt HS.out HK.out (i := j') (j := a) (by omega) (by omega) (I := (j' : Int)) (J := (a : Int)) rfl rfl)
             go_wp2_with (go_at_fn gs; refine (H3.out _ (by repeat (first | exact S.out | apply SI.drewN))).mono ?_; rintro e w3 ⟨rfl, hs3⟩; have A3 := Aside0.mk hs3; clear hs3)
             go_ret2
             have e := part_break lt a i j dk hi2.out hj2.out (by omega)
             rw [PF.out, ← AE.out, e]
             exact ⟨rfl, A3.out⟩
         ·have hi2 : Hid (i' = Sort.scanUp (fun x => lt x dk[a]!) dk j i) := Lib.hid ((scanUp_end (fun x => lt x dk[a]!) dk j i' (Or.inl hle)).symm.trans hsc.out)
          clear hsc
          go_wp2
          go_loopw [11] (fun vj w2 => ∃ (j' : Nat), vj = .int .i64 j' ∧ j' ≤ j ∧ i' ≤ j' + 1 ∧ Aside0 (SI enc w blk off dk w2) ∧
            Hid (Sort.scanDown (fun x => !lt x dk[a]!) dk i' j' = Sort.scanDown (fun x => !lt x dk[a]!) dk i' j))
           (fun vj _ => (intOf vj).toNat)
          case atStart => exact ⟨j, rfl, Nat.le_refl _, hij', S, Lib.hid rfl⟩
          case round =>
           obtain ⟨j', rfl, hjj, hij2, S, hsd⟩ := hrel
           by_cases hle2 : i' ≤ j'
           ·exfalso; omega
           ·have hj2 : Hid (j' = Sort.scanDown (fun x => !lt x dk[a]!) dk i' j) := Lib.hid ((scanDown_end (fun x => !lt x dk[a]!) dk i' j' (Or.inl hle2)).symm.trans hsd.out)
            clear hsd
            have H3 := Lib.hid (swapAt HS.out HK.out (i := j') (j := a) (by omega) (by omega) (I := (j' : Int)) (J := (a : Int)) rfl rfl)
            go_wp2_with (go_at_fn gs; refine (H3.out _ (by repeat (first | exact S.out | apply SI.drewN))).mono ?_; rintro e w3 ⟨rfl, hs3⟩; have A3 := Aside0.mk hs3; clear hs3)
            go_ret2
            have e := part_break lt a i j dk hi2.out hj2.out (by omega)
            rw [PF.out, ← AE.out, e]
            exact ⟨rfl, A3.out⟩
     ·have hj2 : Hid (j' = Sort.scanDown (fun x => !lt x dk[a]!) dk i' j) := Lib.hid ((scanDown_end (fun x => !lt x dk[a]!) dk i' j' (Or.inl hle2)).symm.trans hsd.out)
      clear hsd
      have H3 := Lib.hid (swapAt HS.out HK.out (i := j') (j := a) (by omega) (by omega) (I := (j' : Int)) (J := (a : Int)) rfl rfl)
      go_wp2_with (go_at_fn gs; refine (H3.out _ (by repeat (first | exact S.out | apply SI.drewN))).mono ?_; rintro e w3 ⟨rfl, hs3⟩; have A3 := Aside0.mk hs3; clear hs3)
      go_ret2
      have e := part_first_break lt d a b pivot Hi.out Hj.out Hdk.out hi2.out hj2.out (by omega)
      rw [e]
      exact ⟨rfl, A3.out⟩
  ·have hi2 : Hid (i' = Sort.scanUp (fun x => lt x dk[a]!) dk j i) := Lib.hid ((scanUp_end (fun x => lt x dk[a]!) dk j i' (Or.inl hle)).symm.trans hsc.out)
   clear hsc
   go_wp2
   go_loopw [11] (fun vj w2 => ∃ (j' : Nat), vj = .int .i64 j' ∧ j' ≤ j ∧ i' ≤ j' + 1 ∧ Aside0 (SI enc w blk off dk w2) ∧
     Hid (Sort.scanDown (fun x => !lt x dk[a]!) dk i' j' = Sort.scanDown (fun x => !lt x dk[a]!) dk i' j))
    (fun vj _ => (intOf vj).toNat)
   case atStart => exact ⟨j, rfl, Nat.le_refl _, hij', S, Lib.hid rfl⟩
   case round =>
    obtain ⟨j', rfl, hjj, hij2, S, hsd⟩ := hrel
    by_cases hle2 : i' ≤ j'
    ·exfalso; omega
    ·have hj2 : Hid (j' = Sort.scanDown (fun x => !lt x dk[a]!) dk i' j) := Lib.hid ((scanDown_end (fun x => !lt x dk[a]!) dk i' j' (Or.inl hle2)).symm.trans hsd.out)
     clear hsd
     have H3 := Lib.hid (swapAt HS.out HK.out (i := j') (j := a) (by omega) (by omega) (I := (j' : Int)) (J := (a : Int)) rfl rfl)
     go_wp2_with (go_at_fn gs; refine (H3.out _ (by repeat (first | exact S.out | apply SI.drewN))).mono ?_; rintro e w3 ⟨rfl, hs3⟩; have A3 := Aside0.mk hs3; clear hs3)
     go_ret2
     have e := part_first_break lt d a b pivot Hi.out Hj.out Hdk.out hi2.out hj2.out (by omega)
     rw [e]
     exact ⟨rfl, A3.out⟩
end Go.Proofs.YtgoeiflddikihaaGreatDoor.Srt
end
