/- Merged by program out of: SortQ, SortR, PartW, R1, CnI, R1h, ConP. -/
import Derived.Test.YtgoeiflddikihaaGreatDoorCsgM10
import Derived.Test.YtgoeiflddikihaaGreatDoorCsgM7
import Derived.Test.YtgoeiflddikihaaGreatDoorCsgM30
import Derived.Test.YtgoeiflddikihaaGreatDoorCsgM27
import Derived.Test.YtgoeiflddikihaaGreatDoorCsgM13
import Derived.Ground.GgsProg
import Derived.Shelf.SlSortFunc.Xorshift
import Derived.Shelf.LaysC
import Derived.Test.YtgoeiflddikihaaGreatDoorProg
import Derived.Shelf.GgSortFunc.Partition
import Derived.Shelf.GgSortFunc.Pdq
import Derived.Deep.Cut
import Derived.Deep.CutRange
import Derived.Test.YtgoeiflddikihaaGreatDoorCsgM37
import Derived.Sort.Lot0
import Derived.Test.YtgoeiflddikihaaGreatDoorCsgM3
import Derived.Test.YtgoeiflddikihaaGreatDoorCsgM36
import Derived.Test.YtgoeiflddikihaaGreatDoorCsgM25
section
namespace Go.Proofs.YtgoeiflddikihaaGreatDoor.Ins
end Go.Proofs.YtgoeiflddikihaaGreatDoor.Ins
namespace Go.Proofs.YtgoeiflddikihaaGreatDoor.Ver
set_option linter.unusedSimpArgs false
set_option linter.unusedVariables false
open Go.RowKit Go.Proofs.YtgoeiflddikihaaGreatDoor.PFnVersion Go.Proofs.YtgoeiflddikihaaGreatDoorW.PrintWords Go.Proofs.YtgoeiflddikihaaGreatDoor.Mem Go.Proofs.YtgoeiflddikihaaGreatDoor.Srt Go.Proofs.YtgoeiflddikihaaGreatDoor.Ord Go.Proofs.YtgoeiflddikihaaGreatDoor.Ins Go.Sort
def c27 (x : S27) : List Value := [.int .i64 x.f0, .string x.f1, .string x.f2]
end Go.Proofs.YtgoeiflddikihaaGreatDoor.Ver
end
section
namespace Go.Proofs.YtgoeiflddikihaaGreatDoor.Ins
end Go.Proofs.YtgoeiflddikihaaGreatDoor.Ins
namespace Go.Proofs.YtgoeiflddikihaaGreatDoor.Ver
set_option linter.unusedSimpArgs false
set_option linter.unusedVariables false
open Go.RowKit Go.Proofs.YtgoeiflddikihaaGreatDoor.Dig Go.Proofs.YtgoeiflddikihaaGreatDoor.PFnVersion Go.Proofs.YtgoeiflddikihaaGreatDoorW.PrintWords Go.Proofs.YtgoeiflddikihaaGreatDoor.Mem Go.Proofs.YtgoeiflddikihaaGreatDoor.Srt Go.Proofs.YtgoeiflddikihaaGreatDoor.Ord Go.Proofs.YtgoeiflddikihaaGreatDoor.Ins Go.Sort
abbrev AllRight (l : List S27) : Prop := ∀ x ∈ l, RightV x.f0 x.f1 x.f2
theorem AllRight.size {l : List S27} (h : AllRight l) : ∀ x ∈ l, x.f1.size ≤ 2147483647 := fun x hx => by have := (h x hx).t60; omega
end Go.Proofs.YtgoeiflddikihaaGreatDoor.Ver
end
section
namespace Go.Proofs.YtgoeiflddikihaaGreatDoor.Ver
set_option linter.unusedSimpArgs false
set_option linter.unusedVariables false
open Go.RowKit Go.Proofs.YtgoeiflddikihaaGreatDoor.Dig Go.Proofs.YtgoeiflddikihaaGreatDoorW.PrintWords Go.Proofs.YtgoeiflddikihaaGreatDoor.PFnIntersectAny Go.Proofs.YtgoeiflddikihaaGreatDoor.Ord Go.Proofs.YtgoeiflddikihaaGreatDoor.Mem
theorem ix_eq (u : ByteArray) {i : Int} {k : Nat} (h : i = (k : Int)) (hk : k < u.size) : ∀ h' : i.toNat < u.size, u[i.toNat]'h' = u[k] := by
  subst h
  intro h'
  simp only [Int.toNat_natCast]
theorem ix_in (u : ByteArray) {i : Int} {k : Nat} (h : i = (k : Int)) (hk : k < u.size) : 0 ≤ i ∧ i.toNat < u.size ∧ i < (u.size : Int) := by
  subst h
  exact ⟨by omega, by rw [Int.toNat_natCast]; exact hk, by omega⟩
def strL (v : Value) : Nat := match v with
  | .string s => s.size
  | _ => 0
set_option maxRecDepth 20000 in
set_option maxHeartbeats 8000000 in
theorem part_none (t : ByteArray) (ht : t.size ≤ 100000) (h0 : t.toList ≠ []) (h1 : t.toList ≠ [120]) (h2 : t.toList ≠ [88]) (h3 : t.toList ≠ [42]) (hrv : readV (stripA t) = none) (w : World) (hv : Vars w) :
    Calls Tryz.prog 150 #[.string t] w (ReadEnd (stripA t) w) := by
  have HV := Lib.hid hv
  have HRV := Lib.hid hrv
  have e0 : t.toList.isEmpty = false := by cases h : t.toList with
    | nil => exact absurd h h0
    | cons => rfl
  have e1 : (t.toList == ([120] : List UInt8)) = false := beq_eq_false_iff_ne.2 h1
  have e2 : (t.toList == ([88] : List UInt8)) = false := beq_eq_false_iff_ne.2 h2
  have e3 : (t.toList == ([42] : List UInt8)) = false := beq_eq_false_iff_ne.2 h3
  have HM := Aside0.mk (Blks.start w)
  have HT := Lib.hid ht
  clear hv h0 h1 h2 h3 ht hrv
  go_enter Tryz.func150, Tryz.ntmps150
  go_wp2_with ((with_reducible refine id_alloc ?_); (refine n_al ?_; clear HM; intro b2 wq HM))
  clear e0 e1 e2 e3
  go_loopw [0] (fun v0 wr => ∃ u : ByteArray, v0 = .string u ∧ Hid (stripA u = stripA t) ∧ Hid (u.size ≤ 100000) ∧ Aside0 (Blks w wr [(b2, zSV.toList, 197)])) (fun v0 _ => strL v0)
  case atStart => exact ⟨t, rfl, Lib.hid rfl, HT, ⟨n_own⟩⟩
  case round =>
    obtain ⟨u, rfl, HS, HU, HM1⟩ := hrel
    clear HM
    have HM := HM1
    clear HM1
    by_cases g2 : 2 < u.size
    · have hu := HU.out
      have d2 : decide ((2 : Int) < (u.size : Int)) = true := decide_eq_true (by omega)
      have z2 : u.size - 2 < u.size := by omega
      have z1 : u.size - 1 < u.size := by omega
      have hq0 : stripQ u = ((u[u.size - 2]'z2 == 46 && wildC (u[u.size - 1]'z1)) && plainB (u.extract 0 (u.size - 2))) := by unfold stripQ; rw [dif_pos g2]
      have W2 : wrap64 ((u.size : Int) - 2) = ((u.size - 2 : Nat) : Int) := by rw [wrap_in (by omega) (by omega)]; omega
      have hq2 := ix_eq u W2 (by omega)
      have hx2 : u.extract 0 (wrap64 ((u.size : Int) - 2)).toNat = u.extract 0 (u.size - 2) := by rw [W2, Int.toNat_natCast]
      obtain ⟨a2, b2', c2⟩ := ix_in u W2 (by omega)
      have HW2 := Lib.hid W2
      clear W2
      have W1 : wrap64 ((u.size : Int) - 1) = ((u.size - 1 : Nat) : Int) := by clear a2 b2' c2 hq2 hx2; rw [wrap_in (by omega) (by omega)]; omega
      have hq1 := ix_eq u W1 (by clear a2 b2' c2 hq2 hx2; omega)
      obtain ⟨a1, b1, c1⟩ := ix_in u W1 (by clear a2 b2' c2 hq2 hx2; omega)
      clear W1
      have HPN : Hid (∀ W, Calls Tryz.prog 155 #[.string (u.extract 0 (wrap64 ((u.size : Int) - 2)).toNat)] W fun e w' => e = .returned (.bool (plainB (u.extract 0 (u.size - 2)))) ∧ Drawn0 W w') := Lib.hid (fun W => by
        rw [hx2]
        exact plainB_calls (u.extract 0 (u.size - 2)) (by clear a2 b2' c2 hq2 hx2 a1 b1 c1 hq1; rw [ByteArray.size_extract]; omega) W)
      clear hu
      by_cases ha : u[u.size - 2]'z2 = 46
      · have q46 : (((u[(wrap64 ((u.size : Int) - 2)).toNat]'(b2')).toNat : Int) == 46) = true := by rw [hq2, ha]; rfl
        rw [ha] at hq0
        by_cases hb : u[u.size - 1]'z1 = 120 ∨ u[u.size - 1]'z1 = 88 ∨ u[u.size - 1]'z1 = 42
        · have hwc : wildC (u[u.size - 1]'z1) = true := by rcases hb with h | h | h <;> rw [h] <;> rfl
          rw [hwc] at hq0
          have hwq : ((((u[(wrap64 ((u.size : Int) - 1)).toNat]'(b1)).toNat : Int) == 120) = true) ∨ ((((u[(wrap64 ((u.size : Int) - 1)).toNat]'(b1)).toNat : Int) == 120) = false ∧ (((u[(wrap64 ((u.size : Int) - 1)).toNat]'(b1)).toNat : Int) == 88) = true) ∨ ((((u[(wrap64 ((u.size : Int) - 1)).toNat]'(b1)).toNat : Int) == 120) = false ∧ (((u[(wrap64 ((u.size : Int) - 1)).toNat]'(b1)).toNat : Int) == 88) = false ∧ (((u[(wrap64 ((u.size : Int) - 1)).toNat]'(b1)).toNat : Int) == 42) = true) := by
            rw [hq1]
            rcases hb with h | h | h <;> rw [h] <;> decide
          clear hq1 hq2 ha hb hwc
          cases hpb : plainB (u.extract 0 (u.size - 2)) with
          | true =>
            have hq : stripQ u = true := by rw [hq0, hpb]; rfl
            rw [hpb] at HPN
            have HS2 := Lib.hid ((congrArg stripA hx2).trans ((stripA_yes hq).symm.trans HS.out))
            have hz := (strip_size hq).1
            have hz2 : (u.extract 0 (wrap64 ((u.size : Int) - 2)).toNat).size + 2 = u.size := by rw [hx2]; exact hz
            have HU2 := Lib.hid (Nat.le_trans (Nat.le.intro hz2) HU.out)
            have HLT := Lib.hid (Nat.lt_of_lt_of_le (Nat.lt_add_of_pos_right (by decide : 0 < 2)) (Nat.le_of_eq hz2))
            clear hq hq0 hpb hz hz2 hx2
            rcases hwq with q120 | ⟨q120, q88⟩ | ⟨q120, q88, q42⟩
            all_goals
              go_wp2_with (go_at_call 155; ((with_reducible refine (HPN.out _).mono ?_); rintro e w' ⟨rfl, ⟨nq, rfl⟩⟩; replace HM := n_drew nq))
              exact ⟨⟨_, rfl, HS2, HU2, HM⟩, HLT.out⟩
          | false =>
            have hq : stripQ u = false := by rw [hq0, hpb]; rfl
            rw [hpb] at HPN
            have HQ := Lib.hid hq
            clear hq hq0 hpb hx2
            rcases hwq with q120 | ⟨q120, q88⟩ | ⟨q120, q88, q42⟩
            all_goals
              have HUU := Lib.hid (show u = stripA t by rw [← HS.out, stripA_no HQ.out])
              have HRD := Lib.hid (fun W hb => read_any u (by have := HU.out; omega) W (Vars.below (w := w) HV.out hb))
              go_wp2_with (first | (go_at_call 155; ((with_reducible refine (HPN.out _).mono ?_); rintro e w' ⟨rfl, ⟨nq, rfl⟩⟩; replace HM := n_drew nq)) | (go_at_call 143; ((with_reducible refine (HRD.out _ n_bel).mono ?_); intro e wd hre; unfold ReadEnd at hre; rw [HUU.out, HRV.out] at hre; (try dsimp only [SV.cells] at hre); obtain ⟨hb, ae, rfl⟩ := hre; replace HM := n_call hb; clear hb)) | ((with_reducible refine id_store ?_); (refine n_st ?_; clear HM; intro wq HM)))
              refine bodyPost_ret (results_ctt rfl _ _ b2 197 ([.int .u64 0, .int .u64 0, .int .u64 0, .string ⟨#[]⟩, .string ⟨#[]⟩, .string ⟨#[]⟩] : List Value).toArray (0, 0) _ rfl (HM.out.has (b2, [.int .u64 0, .int .u64 0, .int .u64 0, .string ⟨#[]⟩, .string ⟨#[]⟩, .string ⟨#[]⟩], 197) n_mem) Tryz.underlying197 rfl (by kernel_rfl)) rfl ⟨HM.out.bel, by rw [HRV.out]; exact ⟨_, rfl⟩⟩
        · have hwc : wildC (u[u.size - 1]'z1) = false := by
            cases hw : wildC (u[u.size - 1]'z1) with
            | false => rfl
            | true => exact absurd (by simpa [wildC] using hw) hb
          have key : ∀ k : UInt8, u[u.size - 1]'z1 ≠ k → (((u[(wrap64 ((u.size : Int) - 1)).toNat]'(b1)).toNat : Int) == ((k.toNat : Nat) : Int)) = false := by
            intro k hk
            rw [hq1]
            exact beq_eq_false_iff_ne.2 fun e => hk (UInt8.toNat_inj.1 (Int.ofNat.inj e))
          have q120 := key 120 (fun h => hb (Or.inl h))
          have q88 := key 88 (fun h => hb (Or.inr (Or.inl h)))
          have q42 := key 42 (fun h => hb (Or.inr (Or.inr h)))
          replace q120 : (((u[(wrap64 ((u.size : Int) - 1)).toNat]'(b1)).toNat : Int) == 120) = false := q120
          replace q88 : (((u[(wrap64 ((u.size : Int) - 1)).toNat]'(b1)).toNat : Int) == 88) = false := q88
          replace q42 : (((u[(wrap64 ((u.size : Int) - 1)).toNat]'(b1)).toNat : Int) == 42) = false := q42
          have hq : stripQ u = false := by rw [hq0, hwc]; rfl
          have HQ := Lib.hid hq
          clear hq hq0 hb hwc key hq1 hq2 ha hx2
          have HUU := Lib.hid (show u = stripA t by rw [← HS.out, stripA_no HQ.out])
          have HRD := Lib.hid (fun W hb => read_any u (by have := HU.out; omega) W (Vars.below (w := w) HV.out hb))
          go_wp2_with (first | (go_at_call 143; ((with_reducible refine (HRD.out _ n_bel).mono ?_); intro e wd hre; unfold ReadEnd at hre; rw [HUU.out, HRV.out] at hre; (try dsimp only [SV.cells] at hre); obtain ⟨hb, ae, rfl⟩ := hre; replace HM := n_call hb; clear hb)) | ((with_reducible refine id_store ?_); (refine n_st ?_; clear HM; intro wq HM)))
          refine bodyPost_ret (results_ctt rfl _ _ b2 197 ([.int .u64 0, .int .u64 0, .int .u64 0, .string ⟨#[]⟩, .string ⟨#[]⟩, .string ⟨#[]⟩] : List Value).toArray (0, 0) _ rfl (HM.out.has (b2, [.int .u64 0, .int .u64 0, .int .u64 0, .string ⟨#[]⟩, .string ⟨#[]⟩, .string ⟨#[]⟩], 197) n_mem) Tryz.underlying197 rfl (by kernel_rfl)) rfl ⟨HM.out.bel, by rw [HRV.out]; exact ⟨_, rfl⟩⟩
      · have hq : stripQ u = false := by
          have h46 : (u[u.size - 2]'z2 == (46 : UInt8)) = false := beq_eq_false_iff_ne.2 ha
          rw [hq0, h46]; rfl
        have q46 : (((u[(wrap64 ((u.size : Int) - 2)).toNat]'(b2')).toNat : Int) == 46) = false := by
          rw [hq2]
          exact beq_eq_false_iff_ne.2 fun e => ha (UInt8.toNat_inj.1 (Int.ofNat.inj e))
        have HQ := Lib.hid hq
        clear hq hq0 ha hq1 hq2 hx2
        have HUU := Lib.hid (show u = stripA t by rw [← HS.out, stripA_no HQ.out])
        have HRD := Lib.hid (fun W hb => read_any u (by have := HU.out; omega) W (Vars.below (w := w) HV.out hb))
        go_wp2_with (first | (go_at_call 143; ((with_reducible refine (HRD.out _ n_bel).mono ?_); intro e wd hre; unfold ReadEnd at hre; rw [HUU.out, HRV.out] at hre; (try dsimp only [SV.cells] at hre); obtain ⟨hb, ae, rfl⟩ := hre; replace HM := n_call hb; clear hb)) | ((with_reducible refine id_store ?_); (refine n_st ?_; clear HM; intro wq HM)))
        refine bodyPost_ret (results_ctt rfl _ _ b2 197 ([.int .u64 0, .int .u64 0, .int .u64 0, .string ⟨#[]⟩, .string ⟨#[]⟩, .string ⟨#[]⟩] : List Value).toArray (0, 0) _ rfl (HM.out.has (b2, [.int .u64 0, .int .u64 0, .int .u64 0, .string ⟨#[]⟩, .string ⟨#[]⟩, .string ⟨#[]⟩], 197) n_mem) Tryz.underlying197 rfl (by kernel_rfl)) rfl ⟨HM.out.bel, by rw [HRV.out]; exact ⟨_, rfl⟩⟩
    · have d2 : decide ((2 : Int) < (u.size : Int)) = false := decide_eq_false (by omega)
      have hq : stripQ u = false := by unfold stripQ; rw [dif_neg g2]
      have HQ := Lib.hid hq
      clear hq
      have HUU := Lib.hid (show u = stripA t by rw [← HS.out, stripA_no HQ.out])
      have HRD := Lib.hid (fun W hb => read_any u (by have := HU.out; omega) W (Vars.below (w := w) HV.out hb))
      go_wp2_with (first | (go_at_call 143; ((with_reducible refine (HRD.out _ n_bel).mono ?_); intro e wd hre; unfold ReadEnd at hre; rw [HUU.out, HRV.out] at hre; (try dsimp only [SV.cells] at hre); obtain ⟨hb, ae, rfl⟩ := hre; replace HM := n_call hb; clear hb)) | ((with_reducible refine id_store ?_); (refine n_st ?_; clear HM; intro wq HM)))
      refine bodyPost_ret (results_ctt rfl _ _ b2 197 ([.int .u64 0, .int .u64 0, .int .u64 0, .string ⟨#[]⟩, .string ⟨#[]⟩, .string ⟨#[]⟩] : List Value).toArray (0, 0) _ rfl (HM.out.has (b2, [.int .u64 0, .int .u64 0, .int .u64 0, .string ⟨#[]⟩, .string ⟨#[]⟩, .string ⟨#[]⟩], 197) n_mem) Tryz.underlying197 rfl (by kernel_rfl)) rfl ⟨HM.out.bel, by rw [HRV.out]; exact ⟨_, rfl⟩⟩
set_option maxRecDepth 20000 in
set_option maxHeartbeats 8000000 in
theorem part_some (t : ByteArray) (ht : t.size ≤ 100000) (h0 : t.toList ≠ []) (h1 : t.toList ≠ [120]) (h2 : t.toList ≠ [88]) (h3 : t.toList ≠ [42]) (va vb vc : Int) (vp vm vo : ByteArray) (ct : Nat) (hrv : readV (stripA t) = some (⟨va, vb, vc, vp, vm, vo⟩, ct)) (w : World) (hv : Vars w) :
    Calls Tryz.prog 150 #[.string t] w (ReadEnd (stripA t) w) := by
  have HV := Lib.hid hv
  have HRV := Lib.hid hrv
  have e0 : t.toList.isEmpty = false := by cases h : t.toList with
    | nil => exact absurd h h0
    | cons => rfl
  have e1 : (t.toList == ([120] : List UInt8)) = false := beq_eq_false_iff_ne.2 h1
  have e2 : (t.toList == ([88] : List UInt8)) = false := beq_eq_false_iff_ne.2 h2
  have e3 : (t.toList == ([42] : List UInt8)) = false := beq_eq_false_iff_ne.2 h3
  have HM := Aside0.mk (Blks.start w)
  have HT := Lib.hid ht
  clear hv h0 h1 h2 h3 ht hrv
  go_enter Tryz.func150, Tryz.ntmps150
  go_wp2_with ((with_reducible refine id_alloc ?_); (refine n_al ?_; clear HM; intro b2 wq HM))
  clear e0 e1 e2 e3
  go_loopw [0] (fun v0 wr => ∃ u : ByteArray, v0 = .string u ∧ Hid (stripA u = stripA t) ∧ Hid (u.size ≤ 100000) ∧ Aside0 (Blks w wr [(b2, zSV.toList, 197)])) (fun v0 _ => strL v0)
  case atStart => exact ⟨t, rfl, Lib.hid rfl, HT, ⟨n_own⟩⟩
  case round =>
    obtain ⟨u, rfl, HS, HU, HM1⟩ := hrel
    clear HM
    have HM := HM1
    clear HM1
    by_cases g2 : 2 < u.size
    · have hu := HU.out
      have d2 : decide ((2 : Int) < (u.size : Int)) = true := decide_eq_true (by omega)
      have z2 : u.size - 2 < u.size := by omega
      have z1 : u.size - 1 < u.size := by omega
      have hq0 : stripQ u = ((u[u.size - 2]'z2 == 46 && wildC (u[u.size - 1]'z1)) && plainB (u.extract 0 (u.size - 2))) := by unfold stripQ; rw [dif_pos g2]
      have W2 : wrap64 ((u.size : Int) - 2) = ((u.size - 2 : Nat) : Int) := by rw [wrap_in (by omega) (by omega)]; omega
      have hq2 := ix_eq u W2 (by omega)
      have hx2 : u.extract 0 (wrap64 ((u.size : Int) - 2)).toNat = u.extract 0 (u.size - 2) := by rw [W2, Int.toNat_natCast]
      obtain ⟨a2, b2', c2⟩ := ix_in u W2 (by omega)
      have HW2 := Lib.hid W2
      clear W2
      have W1 : wrap64 ((u.size : Int) - 1) = ((u.size - 1 : Nat) : Int) := by clear a2 b2' c2 hq2 hx2; rw [wrap_in (by omega) (by omega)]; omega
      have hq1 := ix_eq u W1 (by clear a2 b2' c2 hq2 hx2; omega)
      obtain ⟨a1, b1, c1⟩ := ix_in u W1 (by clear a2 b2' c2 hq2 hx2; omega)
      clear W1
      have HPN : Hid (∀ W, Calls Tryz.prog 155 #[.string (u.extract 0 (wrap64 ((u.size : Int) - 2)).toNat)] W fun e w' => e = .returned (.bool (plainB (u.extract 0 (u.size - 2)))) ∧ Drawn0 W w') := Lib.hid (fun W => by
        rw [hx2]
        exact plainB_calls (u.extract 0 (u.size - 2)) (by clear a2 b2' c2 hq2 hx2 a1 b1 c1 hq1; rw [ByteArray.size_extract]; omega) W)
      clear hu
      by_cases ha : u[u.size - 2]'z2 = 46
      · have q46 : (((u[(wrap64 ((u.size : Int) - 2)).toNat]'(b2')).toNat : Int) == 46) = true := by rw [hq2, ha]; rfl
        rw [ha] at hq0
        by_cases hb : u[u.size - 1]'z1 = 120 ∨ u[u.size - 1]'z1 = 88 ∨ u[u.size - 1]'z1 = 42
        · have hwc : wildC (u[u.size - 1]'z1) = true := by rcases hb with h | h | h <;> rw [h] <;> rfl
          rw [hwc] at hq0
          have hwq : ((((u[(wrap64 ((u.size : Int) - 1)).toNat]'(b1)).toNat : Int) == 120) = true) ∨ ((((u[(wrap64 ((u.size : Int) - 1)).toNat]'(b1)).toNat : Int) == 120) = false ∧ (((u[(wrap64 ((u.size : Int) - 1)).toNat]'(b1)).toNat : Int) == 88) = true) ∨ ((((u[(wrap64 ((u.size : Int) - 1)).toNat]'(b1)).toNat : Int) == 120) = false ∧ (((u[(wrap64 ((u.size : Int) - 1)).toNat]'(b1)).toNat : Int) == 88) = false ∧ (((u[(wrap64 ((u.size : Int) - 1)).toNat]'(b1)).toNat : Int) == 42) = true) := by
            rw [hq1]
            rcases hb with h | h | h <;> rw [h] <;> decide
          clear hq1 hq2 ha hb hwc
          cases hpb : plainB (u.extract 0 (u.size - 2)) with
          | true =>
            have hq : stripQ u = true := by rw [hq0, hpb]; rfl
            rw [hpb] at HPN
            have HS2 := Lib.hid ((congrArg stripA hx2).trans ((stripA_yes hq).symm.trans HS.out))
            have hz := (strip_size hq).1
            have hz2 : (u.extract 0 (wrap64 ((u.size : Int) - 2)).toNat).size + 2 = u.size := by rw [hx2]; exact hz
            have HU2 := Lib.hid (Nat.le_trans (Nat.le.intro hz2) HU.out)
            have HLT := Lib.hid (Nat.lt_of_lt_of_le (Nat.lt_add_of_pos_right (by decide : 0 < 2)) (Nat.le_of_eq hz2))
            clear hq hq0 hpb hz hz2 hx2
            rcases hwq with q120 | ⟨q120, q88⟩ | ⟨q120, q88, q42⟩
            all_goals
              go_wp2_with (go_at_call 155; ((with_reducible refine (HPN.out _).mono ?_); rintro e w' ⟨rfl, ⟨nq, rfl⟩⟩; replace HM := n_drew nq))
              exact ⟨⟨_, rfl, HS2, HU2, HM⟩, HLT.out⟩
          | false =>
            have hq : stripQ u = false := by rw [hq0, hpb]; rfl
            rw [hpb] at HPN
            have HQ := Lib.hid hq
            clear hq hq0 hpb hx2
            rcases hwq with q120 | ⟨q120, q88⟩ | ⟨q120, q88, q42⟩
            all_goals
              have HUU := Lib.hid (show u = stripA t by rw [← HS.out, stripA_no HQ.out])
              have HRD := Lib.hid (fun W hb => read_any u (by have := HU.out; omega) W (Vars.below (w := w) HV.out hb))
              go_wp2_with (first | (go_at_call 155; ((with_reducible refine (HPN.out _).mono ?_); rintro e w' ⟨rfl, ⟨nq, rfl⟩⟩; replace HM := n_drew nq)) | (go_at_call 143; ((with_reducible refine (HRD.out _ n_bel).mono ?_); intro e wd hre; unfold ReadEnd at hre; rw [HUU.out, HRV.out] at hre; (try dsimp only [SV.cells] at hre); obtain ⟨hb, rfl⟩ := hre; replace HM := n_call hb; clear hb)) | ((with_reducible refine id_store ?_); (refine n_st ?_; clear HM; intro wq HM)))
              refine bodyPost_ret (results_ctt rfl _ _ b2 197 ([.int .u64 va, .int .u64 vb, .int .u64 vc, .string vp, .string vm, .string vo] : List Value).toArray (0, 0) _ rfl (HM.out.has (b2, [.int .u64 va, .int .u64 vb, .int .u64 vc, .string vp, .string vm, .string vo], 197) n_mem) Tryz.underlying197 rfl (by kernel_rfl)) rfl ⟨HM.out.bel, by rw [HRV.out]; rfl⟩
        · have hwc : wildC (u[u.size - 1]'z1) = false := by
            cases hw : wildC (u[u.size - 1]'z1) with
            | false => rfl
            | true => exact absurd (by simpa [wildC] using hw) hb
          have key : ∀ k : UInt8, u[u.size - 1]'z1 ≠ k → (((u[(wrap64 ((u.size : Int) - 1)).toNat]'(b1)).toNat : Int) == ((k.toNat : Nat) : Int)) = false := by
            intro k hk
            rw [hq1]
            exact beq_eq_false_iff_ne.2 fun e => hk (UInt8.toNat_inj.1 (Int.ofNat.inj e))
          have q120 := key 120 (fun h => hb (Or.inl h))
          have q88 := key 88 (fun h => hb (Or.inr (Or.inl h)))
          have q42 := key 42 (fun h => hb (Or.inr (Or.inr h)))
          replace q120 : (((u[(wrap64 ((u.size : Int) - 1)).toNat]'(b1)).toNat : Int) == 120) = false := q120
          replace q88 : (((u[(wrap64 ((u.size : Int) - 1)).toNat]'(b1)).toNat : Int) == 88) = false := q88
          replace q42 : (((u[(wrap64 ((u.size : Int) - 1)).toNat]'(b1)).toNat : Int) == 42) = false := q42
          have hq : stripQ u = false := by rw [hq0, hwc]; rfl
          have HQ := Lib.hid hq
          clear hq hq0 hb hwc key hq1 hq2 ha hx2
          have HUU := Lib.hid (show u = stripA t by rw [← HS.out, stripA_no HQ.out])
          have HRD := Lib.hid (fun W hb => read_any u (by have := HU.out; omega) W (Vars.below (w := w) HV.out hb))
          go_wp2_with (first | (go_at_call 143; ((with_reducible refine (HRD.out _ n_bel).mono ?_); intro e wd hre; unfold ReadEnd at hre; rw [HUU.out, HRV.out] at hre; (try dsimp only [SV.cells] at hre); obtain ⟨hb, rfl⟩ := hre; replace HM := n_call hb; clear hb)) | ((with_reducible refine id_store ?_); (refine n_st ?_; clear HM; intro wq HM)))
          refine bodyPost_ret (results_ctt rfl _ _ b2 197 ([.int .u64 va, .int .u64 vb, .int .u64 vc, .string vp, .string vm, .string vo] : List Value).toArray (0, 0) _ rfl (HM.out.has (b2, [.int .u64 va, .int .u64 vb, .int .u64 vc, .string vp, .string vm, .string vo], 197) n_mem) Tryz.underlying197 rfl (by kernel_rfl)) rfl ⟨HM.out.bel, by rw [HRV.out]; rfl⟩
      · have hq : stripQ u = false := by
          have h46 : (u[u.size - 2]'z2 == (46 : UInt8)) = false := beq_eq_false_iff_ne.2 ha
          rw [hq0, h46]; rfl
        have q46 : (((u[(wrap64 ((u.size : Int) - 2)).toNat]'(b2')).toNat : Int) == 46) = false := by
          rw [hq2]
          exact beq_eq_false_iff_ne.2 fun e => ha (UInt8.toNat_inj.1 (Int.ofNat.inj e))
        have HQ := Lib.hid hq
        clear hq hq0 ha hq1 hq2 hx2
        have HUU := Lib.hid (show u = stripA t by rw [← HS.out, stripA_no HQ.out])
        have HRD := Lib.hid (fun W hb => read_any u (by have := HU.out; omega) W (Vars.below (w := w) HV.out hb))
        go_wp2_with (first | (go_at_call 143; ((with_reducible refine (HRD.out _ n_bel).mono ?_); intro e wd hre; unfold ReadEnd at hre; rw [HUU.out, HRV.out] at hre; (try dsimp only [SV.cells] at hre); obtain ⟨hb, rfl⟩ := hre; replace HM := n_call hb; clear hb)) | ((with_reducible refine id_store ?_); (refine n_st ?_; clear HM; intro wq HM)))
        refine bodyPost_ret (results_ctt rfl _ _ b2 197 ([.int .u64 va, .int .u64 vb, .int .u64 vc, .string vp, .string vm, .string vo] : List Value).toArray (0, 0) _ rfl (HM.out.has (b2, [.int .u64 va, .int .u64 vb, .int .u64 vc, .string vp, .string vm, .string vo], 197) n_mem) Tryz.underlying197 rfl (by kernel_rfl)) rfl ⟨HM.out.bel, by rw [HRV.out]; rfl⟩
    · have d2 : decide ((2 : Int) < (u.size : Int)) = false := decide_eq_false (by omega)
      have hq : stripQ u = false := by unfold stripQ; rw [dif_neg g2]
      have HQ := Lib.hid hq
      clear hq
      have HUU := Lib.hid (show u = stripA t by rw [← HS.out, stripA_no HQ.out])
      have HRD := Lib.hid (fun W hb => read_any u (by have := HU.out; omega) W (Vars.below (w := w) HV.out hb))
      go_wp2_with (first | (go_at_call 143; ((with_reducible refine (HRD.out _ n_bel).mono ?_); intro e wd hre; unfold ReadEnd at hre; rw [HUU.out, HRV.out] at hre; (try dsimp only [SV.cells] at hre); obtain ⟨hb, rfl⟩ := hre; replace HM := n_call hb; clear hb)) | ((with_reducible refine id_store ?_); (refine n_st ?_; clear HM; intro wq HM)))
      refine bodyPost_ret (results_ctt rfl _ _ b2 197 ([.int .u64 va, .int .u64 vb, .int .u64 vc, .string vp, .string vm, .string vo] : List Value).toArray (0, 0) _ rfl (HM.out.has (b2, [.int .u64 va, .int .u64 vb, .int .u64 vc, .string vp, .string vm, .string vo], 197) n_mem) Tryz.underlying197 rfl (by kernel_rfl)) rfl ⟨HM.out.bel, by rw [HRV.out]; rfl⟩
def PartEnd (s : ByteArray) (w : World) (e : Ending) (w' : World) : Prop :=
  Below w.heap.size w w' ∧ match partV s with
    | none => ∃ a, e = .returned (.tuple #[.agg zSV, .int .i64 0, .iface 260 (.pointer (some a))])
    | some (v, k) => e = .returned (.tuple #[.agg v.cells, .int .i64 (k : Int), .nilIface])
set_option maxRecDepth 20000 in
set_option maxHeartbeats 8000000 in
theorem part_empty (t : ByteArray) (h0 : t.toList = []) (w : World) : Calls Tryz.prog 150 #[.string t] w (PartEnd t w) := by
  have hp : partV t = none := by unfold partV; rw [if_pos h0]
  have HP := Lib.hid hp
  have e0 : t.toList.isEmpty = true := by rw [h0]; rfl
  have e1 : (t.toList == ([120] : List UInt8)) = false := by rw [h0]; rfl
  have e2 : (t.toList == ([88] : List UInt8)) = false := by rw [h0]; rfl
  have e3 : (t.toList == ([42] : List UInt8)) = false := by rw [h0]; rfl
  have HM := Aside0.mk (Blks.start w)
  clear h0 hp
  go_enter Tryz.func150, Tryz.ntmps150
  go_wp2_with (first | (go_at_call 144; ((with_reducible refine (new_any _ _).mono ?_); rintro e wn ⟨rfl, rfl⟩)) | ((with_reducible refine id_store ?_); (refine n_st ?_; clear HM; intro wq HM)) | ((with_reducible refine id_alloc ?_); (refine n_al ?_; clear HM; intro b2 wq HM)))
  refine bodyPost_ret (results_ctt rfl _ _ b2 197 ([.int .u64 0, .int .u64 0, .int .u64 0, .string ⟨#[]⟩, .string ⟨#[]⟩, .string ⟨#[]⟩] : List Value).toArray (0, 0) _ rfl (HM.out.has (b2, [.int .u64 0, .int .u64 0, .int .u64 0, .string ⟨#[]⟩, .string ⟨#[]⟩, .string ⟨#[]⟩], 197) n_mem) Tryz.underlying197 rfl (by kernel_rfl)) rfl ⟨HM.out.bel, by rw [HP.out]; exact ⟨_, rfl⟩⟩
set_option maxRecDepth 20000 in
set_option maxHeartbeats 8000000 in
theorem part_wild (t : ByteArray) (h0 : t.toList = [120] ∨ t.toList = [88] ∨ t.toList = [42]) (w : World) : Calls Tryz.prog 150 #[.string t] w (PartEnd t w) := by
  have hp : partV t = some (zVd, 0) := by unfold partV; rw [if_neg (by rcases h0 with h | h | h <;> rw [h] <;> simp), if_pos h0]
  have HP := Lib.hid hp
  have e0 : t.toList.isEmpty = false := by rcases h0 with h | h | h <;> rw [h] <;> rfl
  have hq : ((t.toList == ([120] : List UInt8)) = true) ∨ ((t.toList == ([120] : List UInt8)) = false ∧ (t.toList == ([88] : List UInt8)) = true) ∨ ((t.toList == ([120] : List UInt8)) = false ∧ (t.toList == ([88] : List UInt8)) = false ∧ (t.toList == ([42] : List UInt8)) = true) := by
    rcases h0 with h | h | h <;> rw [h] <;> decide
  have HM := Aside0.mk (Blks.start w)
  clear h0 hp
  rcases hq with e1 | ⟨e1, e2⟩ | ⟨e1, e2, e3⟩
  all_goals
    go_enter Tryz.func150, Tryz.ntmps150
    go_wp2_with (first | ((with_reducible refine id_store ?_); (refine n_st ?_; clear HM; intro wq HM)) | ((with_reducible refine id_alloc ?_); (refine n_al ?_; clear HM; intro b2 wq HM)))
    refine bodyPost_ret (results_ctt rfl _ _ b2 197 ([.int .u64 0, .int .u64 0, .int .u64 0, .string ⟨#[]⟩, .string ⟨#[]⟩, .string ⟨#[]⟩] : List Value).toArray (0, 0) _ rfl (HM.out.has (b2, [.int .u64 0, .int .u64 0, .int .u64 0, .string ⟨#[]⟩, .string ⟨#[]⟩, .string ⟨#[]⟩], 197) n_mem) Tryz.underlying197 rfl (by kernel_rfl)) rfl ⟨HM.out.bel, by rw [HP.out]; rfl⟩
theorem part_all (t : ByteArray) (ht : t.size ≤ 100000) (w : World) (hv : Vars w) : Calls Tryz.prog 150 #[.string t] w (PartEnd t w) := by
  by_cases h0 : t.toList = []
  · exact part_empty t h0 w
  · by_cases h1 : t.toList = [120] ∨ t.toList = [88] ∨ t.toList = [42]
    · exact part_wild t h1 w
    · have hp : partV t = readV (stripA t) := by unfold partV; rw [if_neg h0, if_neg h1]
      have key : ∀ {e : Ending} {w' : World}, ReadEnd (stripA t) w e w' → PartEnd t w e w' := by
        intro e w' h
        unfold PartEnd
        rw [hp]
        exact h
      cases hr : readV (stripA t) with
      | none => exact (part_none t ht h0 (fun h => h1 (Or.inl h)) (fun h => h1 (Or.inr (Or.inl h))) (fun h => h1 (Or.inr (Or.inr h))) hr w hv).mono fun e w' h => key h
      | some x =>
        obtain ⟨⟨va, vb, vc, vp, vm, vo⟩, ct⟩ := x
        exact (part_some t ht h0 (fun h => h1 (Or.inl h)) (fun h => h1 (Or.inr (Or.inl h))) (fun h => h1 (Or.inr (Or.inr h))) va vb vc vp vm vo ct hr w hv).mono fun e w' h => key h
end Go.Proofs.YtgoeiflddikihaaGreatDoor.Ver
end
section
namespace Go.Proofs.YtgoeiflddikihaaGreatDoor.Ver
set_option linter.unusedSimpArgs false
set_option linter.unusedVariables false
open Go.RowKit Go.Proofs.YtgoeiflddikihaaGreatDoor.Dig Go.Proofs.YtgoeiflddikihaaGreatDoorW.PrintWords Go.Proofs.YtgoeiflddikihaaGreatDoor.PFnIntersectAny Go.Proofs.YtgoeiflddikihaaGreatDoor.Ord Go.Proofs.YtgoeiflddikihaaGreatDoor.Mem
def R1End (r : Option CnD) (w : World) (e : Ending) (w' : World) : Prop :=
  (match r with
    | none => ∃ a, e = .returned (.tuple #[.nilIface, .iface 260 (.pointer (some a))])
    | some c => ∃ x, e = .returned (.tuple #[x, .nilIface]) ∧ CnAt w' w.heap.size c x) ∧ Below w.heap.size w w'
theorem R1End.bad {w w' : World} {a : Addr} (hb : Below w.heap.size w w') : R1End none w (.returned (.tuple #[.nilIface, .iface 260 (.pointer (some a))])) w' := ⟨⟨a, rfl⟩, hb⟩
theorem R1End.ver {w w' : World} {u : SV} {cs : Array Value} (hb : Below w.heap.size w w') (hc : cs = u.cells) : R1End (some (.ver u)) w (.returned (.tuple #[.iface 197 (.agg cs), .nilIface])) w' := by subst hc; exact ⟨⟨_, rfl, rfl⟩, hb⟩
theorem R1End.none' {w w' : World} (hb : Below w.heap.size w w') : R1End (some (.rng [])) w (.returned (.tuple #[.iface 238 (.agg #[.slice none 0 0]), .nilIface])) w' := ⟨⟨_, rfl, ⟨_, rfl, RngAt.nil _ _⟩⟩, hb⟩
theorem R1End.one {w w' : World} {L : List Blk} {b : Nat} {p : PD} {cs : List Value} {bv : Value} (H : Blks w w' L) (hm : (b, cs, 242) ∈ L) (hc : cs = pcl p bv) (hv : VsAt w' w.heap.size bv p.but) :
    R1End (some (.rng [p])) w (.returned (.tuple #[.iface 238 (.agg #[.slice (some ⟨b, 0, none⟩) 1 1]), .nilIface])) w' := by
  subst hc
  refine ⟨⟨_, rfl, ⟨_, rfl, _, Blks.row H hm rfl (by unfold maxLen; omega), ?_⟩⟩, H.bel⟩
  have := PRep.cons hv (PRep.nil (w := w') (base := w.heap.size))
  rwa [List.append_nil] at this
theorem R1End.two {w w' : World} {L : List Blk} {b : Nat} {p q : PD} {cs : List Value} (H : Blks w w' L) (hm : (b, cs, 242) ∈ L) (hc : cs = pcl p (.slice none 0 0) ++ pcl q (.slice none 0 0)) (hp : p.but = []) (hq : q.but = []) :
    R1End (some (.rng [p, q])) w (.returned (.tuple #[.iface 238 (.agg #[.slice (some ⟨b, 0, none⟩) 2 2]), .nilIface])) w' := by
  subst hc
  refine ⟨⟨_, rfl, ⟨_, rfl, _, Blks.row H hm rfl (by unfold maxLen; omega), ?_⟩⟩, H.bel⟩
  have h1 : VsAt w' w.heap.size (.slice none 0 0) p.but := by rw [hp]; exact World.ownsRow_nil _ _ _ _
  have h2 : VsAt w' w.heap.size (.slice none 0 0) q.but := by rw [hq]; exact World.ownsRow_nil _ _ _ _
  have := PRep.cons h1 (PRep.cons h2 (PRep.nil (w := w') (base := w.heap.size)))
  rwa [List.append_nil] at this
theorem vs_nil (w : World) (base : Nat) : VsAt w base (.slice none 0 0) [] := World.ownsRow_nil _ _ _ _
theorem sg_yes {c : UInt8} (h : isSg c = true) : c = 61 ∨ c = 33 ∨ c = 60 ∨ c = 62 ∨ c = 126 ∨ c = 94 := by simpa [isSg] using h
theorem sgq_yes {x : UInt8} (h : isSg x = true) : (((x.toNat : Nat) : Int) == 61) = true ∨ ((((x.toNat : Nat) : Int) == 61) = false ∧ (((x.toNat : Nat) : Int) == 33) = true) ∨
    ((((x.toNat : Nat) : Int) == 61) = false ∧ (((x.toNat : Nat) : Int) == 33) = false ∧ (((x.toNat : Nat) : Int) == 60) = true) ∨
    ((((x.toNat : Nat) : Int) == 61) = false ∧ (((x.toNat : Nat) : Int) == 33) = false ∧ (((x.toNat : Nat) : Int) == 60) = false ∧ (((x.toNat : Nat) : Int) == 62) = true) ∨
    ((((x.toNat : Nat) : Int) == 61) = false ∧ (((x.toNat : Nat) : Int) == 33) = false ∧ (((x.toNat : Nat) : Int) == 60) = false ∧ (((x.toNat : Nat) : Int) == 62) = false ∧ (((x.toNat : Nat) : Int) == 126) = true) ∨
    ((((x.toNat : Nat) : Int) == 61) = false ∧ (((x.toNat : Nat) : Int) == 33) = false ∧ (((x.toNat : Nat) : Int) == 60) = false ∧ (((x.toNat : Nat) : Int) == 62) = false ∧ (((x.toNat : Nat) : Int) == 126) = false ∧ (((x.toNat : Nat) : Int) == 94) = true) := by
  rcases sg_yes h with rfl | rfl | rfl | rfl | rfl | rfl <;> decide
theorem sgq_no {x : UInt8} (h : isSg x = false) : (((x.toNat : Nat) : Int) == 61) = false ∧ (((x.toNat : Nat) : Int) == 33) = false ∧ (((x.toNat : Nat) : Int) == 60) = false ∧ (((x.toNat : Nat) : Int) == 62) = false ∧ (((x.toNat : Nat) : Int) == 126) = false ∧ (((x.toNat : Nat) : Int) == 94) = false := by
  simp [isSg] at h
  obtain ⟨h1, h2, h3, h4, h5, h6⟩ := h
  have key : ∀ (k : UInt8), ¬ x = k → (((x.toNat : Nat) : Int) == ((k.toNat : Nat) : Int)) = false := fun k hk => beq_eq_false_iff_ne.2 fun e => hk (UInt8.toNat_inj.1 (by omega))
  exact ⟨key 61 h1, key 33 h2, key 60 h3, key 62 h4, key 126 h5, key 94 h6⟩
theorem text_cons {u : ByteArray} {c : UInt8} {l : Bs} (h : u.data.toList = c :: l) : ∃ h0 : 0 < u.size, u[0] = c ∧ u.extract 0 1 = ⟨#[c]⟩ ∧ u.extract 1 u.size = mkT l := by
  have e : u = mkT (c :: l) := by rw [← h, mkT_of]
  subst e
  refine ⟨by rw [mkT_size]; simp, rfl, ?_, ?_⟩
  · rw [mkT_extract]; rfl
  · rw [mkT_extract, mkT_size]; congr 1; simp
theorem foldl_putP (p : Nat) : ∀ (l : List Value) (k : Nat) (z : Array Value), p + k + l.length ≤ z.size →
    ((l.zipIdx k).foldl (fun acc x => acc.setIfInBounds (p + x.2) x.1) z).toList = z.toList.take (p + k) ++ l ++ z.toList.drop (p + k + l.length)
  | [], k, z, _ => by simp
  | c :: l, k, z, h => by
    have h' : p + (k + 1) + l.length ≤ (z.setIfInBounds (p + k) c).size := by simp only [List.length_cons] at h; simp; omega
    have hk : p + k < z.toList.length := by simp only [List.length_cons] at h; simp; omega
    rw [List.zipIdx_cons, List.foldl_cons, foldl_putP p l (k + 1) _ h']
    simp only [Array.toList_setIfInBounds, List.length_cons]
    rw [← Nat.add_assoc p k 1, List.take_set, List.drop_set_of_lt (by omega), List.take_succ_eq_append_getElem hk, List.set_append_right _ _ (by simp; omega)]
    have e : p + k - (List.take (p + k) z.toList).length = 0 := by rw [List.length_take]; omega
    rw [e]
    simp [Nat.add_assoc, Nat.add_comm 1]
theorem slice_two (a b : Array Value) (ha : a.size = 17) (hb : b.size = 17) : Tryz.prog.builtSlice 242 2 [(0, .agg a), (1, .agg b)] = some (a ++ b) := by
  obtain ⟨iv, hvi, hvz0, hvz1, _⟩ := info_parts infoPc
  unfold Program.builtSlice
  simp only [hvi, hvz0, hvz1]
  rw [if_neg (by decide)]
  generalize hz : (Array.range (2 * 17)).map _ = z
  have hzs : z.size = 34 := by rw [← hz]; simp
  have f1 := foldl_putP 0 a.toList 0 z (by simp; omega)
  have f2 := foldl_putP 17 b.toList 0 ((a.toList.zipIdx 0).foldl (fun acc x => acc.setIfInBounds (0 + x.2) x.1) z) (by rw [← Array.length_toList, f1]; simp; omega)
  unfold Instr.fill
  simp only [Value.cells, ha, Nat.zero_mul]
  rw [if_neg (by simp [hzs])]
  unfold Instr.fill
  simp only [Value.cells, hb, Nat.one_mul]
  rw [if_neg (by
    rw [← Array.foldl_toList, Array.toList_zipIdx, ← Array.length_toList, f1]
    simp [ha, hzs])]
  unfold Instr.fill
  refine congrArg some ?_
  apply Array.ext'
  rw [← Array.foldl_toList, Array.toList_zipIdx, ← Array.foldl_toList, Array.toList_zipIdx, f2, f1]
  have e1 : a.toList.length = 17 := by rw [Array.length_toList, ha]
  have e2 : b.toList.length = 17 := by rw [Array.length_toList, hb]
  have e3 : z.toList.length = 34 := by rw [Array.length_toList, hzs]
  rw [e1, e2, Array.toList_append]
  generalize a.toList = x at *
  generalize b.toList = y at *
  generalize z.toList = u at *
  rw [List.take_zero, List.nil_append, Nat.zero_add, Nat.add_zero, List.take_left' e1, List.drop_eq_nil_of_le (by rw [List.length_append, List.length_drop, e1, e3]; decide), List.append_nil]
end Go.Proofs.YtgoeiflddikihaaGreatDoor.Ver
end
section
namespace Go.Proofs.YtgoeiflddikihaaGreatDoor.Ver
set_option linter.unusedSimpArgs false
set_option linter.unusedVariables false
open Go.RowKit Go.Proofs.YtgoeiflddikihaaGreatDoorW.PrintWords Go.Proofs.YtgoeiflddikihaaGreatDoor.Mem Go.Proofs.YtgoeiflddikihaaGreatDoor.Ord
def SlIn (L : List Blk) (e : TypeId) (sz n : Nat) (xs : List Value) (v : Value) : Prop :=
  (v = .slice none 0 0 ∧ n = 0 ∧ xs = []) ∨
  ∃ g cap rest, v = .slice (some ⟨g, 0, none⟩) n cap ∧ n ≤ cap ∧ cap ≤ maxLen ∧ xs.length = n * sz ∧ (xs ++ rest).length = cap * sz ∧ (g, xs ++ rest, e) ∈ L
theorem SlIn.nil (L : List Blk) (e : TypeId) (sz : Nat) : SlIn L e sz 0 [] (.slice none 0 0) := Or.inl ⟨rfl, rfl, rfl⟩
theorem SlIn.mono {L L' : List Blk} {e : TypeId} {sz n : Nat} {xs : List Value} {v : Value} (h : SlIn L e sz n xs v) (hs : ∀ x ∈ L, x ∈ L') : SlIn L' e sz n xs v := by
  rcases h with h | ⟨g, cap, rest, h1, h2, h3, h4, h5, h6⟩
  · exact Or.inl h
  · exact Or.inr ⟨g, cap, rest, h1, h2, h3, h4, h5, hs _ h6⟩
theorem SlIn.val {L : List Blk} {e : TypeId} {sz n : Nat} {xs : List Value} {v : Value} (h : SlIn L e sz n xs v) : ∃ A c, v = .slice A n c ∧ n ≤ maxLen := by
  rcases h with ⟨rfl, rfl, _⟩ | ⟨g, cap, _, rfl, h2, h3, _⟩
  · exact ⟨_, _, rfl, Nat.zero_le _⟩
  · exact ⟨_, _, rfl, Nat.le_trans h2 h3⟩
theorem SlIn.owns {Z L : List Blk} {e : TypeId} {sz n : Nat} {xs : List Value} {v : Value} {w0 w : World} (h : SlIn Z e sz n xs v) (H : Blks w0 w L) (hs : ∀ x ∈ Z, x ∈ L) : w.ownsRow w0.heap.size e sz v n xs := by
  rcases h with ⟨rfl, rfl, rfl⟩ | ⟨g, cap, rest, rfl, h1, h2, h3, h4, h5⟩
  · exact World.ownsRow_nil _ _ _ _
  · have hm := hs _ h5
    exact ⟨h3, Or.inr ⟨g, cap, (xs ++ rest).toArray, rfl, H.new _ hm, H.has _ hm, h1, h2, by simpa using h4, by simp [← h3]⟩⟩
theorem addRow {L Z : List Blk} {w0 w1 : World} {base : Nat} {e : TypeId} {sz n : Nat} {xs : List Value} {v : Value} (H : Blks w0 w1 (L ++ Z)) (hL : ∀ x ∈ L, x.1 < base) (hb : w0.heap.size ≤ base) (ho : w1.ownsRow base e sz v n xs) :
    ∃ Z', (∀ x ∈ Z, x ∈ Z') ∧ Blks w0 w1 (L ++ Z') ∧ SlIn Z' e sz n xs v := by
  rcases ho.2 with ⟨rfl, rfl⟩ | ⟨g, cap, cur, rfl, hg, hc, h1, h2, h3, h4⟩
  · have : xs = [] := List.length_eq_zero_iff.1 (by rw [ho.1]; omega)
    subst this
    exact ⟨Z, fun _ h => h, H, SlIn.nil _ _ _⟩
  · have e1 : cur.toList = xs ++ cur.toList.drop (n * sz) := by rw [← h4, List.take_append_drop]
    have fin : ∀ Z' : List Blk, (g, cur.toList, e) ∈ Z' → SlIn Z' e sz n xs (.slice (some ⟨g, 0, none⟩) n cap) := fun Z' hm =>
      Or.inr ⟨g, cap, _, rfl, h1, h2, ho.1, by rw [← e1, Array.length_toList, h3], by rw [← e1]; exact hm⟩
    by_cases hz : g ∈ Z.map (·.1)
    · obtain ⟨x, hx, rfl⟩ := List.mem_map.1 hz
      obtain ⟨g, cs, t⟩ := x
      have hh := H.has _ (List.mem_append_right _ hx)
      rw [hc] at hh
      have hh2 := Option.some.inj hh
      injection hh2 with a1 a2 a3
      subst a1 a2
      exact ⟨Z, fun _ h => h, H, fin Z hx⟩
    · refine ⟨Z ++ [(g, cur.toList, e)], fun x hx => List.mem_append_left _ hx, ?_, fin _ (List.mem_append_right _ (List.mem_singleton.2 rfl))⟩
      have hgl : g ∉ (L ++ Z).map (·.1) := by
        rw [List.map_append, List.mem_append]
        rintro (h | h)
        · obtain ⟨x, hx, he⟩ := List.mem_map.1 h
          have := hL x hx
          omega
        · exact hz h
      have K : Blks w0 w1 ((g, cur.toList, e) :: (L ++ Z)) := by
        refine ⟨H.bel, ?_, ?_, ?_⟩
        · intro x hx
          rcases List.mem_cons.1 hx with rfl | hx
          · exact hc
          · exact H.has x hx
        · intro x hx
          rcases List.mem_cons.1 hx with rfl | hx
          · exact Nat.le_trans hb hg
          · exact H.new x hx
        · exact List.nodup_cons.2 ⟨hgl, H.nd⟩
      refine K.perm ?_
      rw [← List.append_assoc]
      exact List.perm_append_comm (l₁ := [_])
inductive PIn (Z : List Blk) : List Value → List PD → Prop
  | nil : PIn Z [] []
  | cons {p : PD} {bv : Value} {xs : List Value} {l : List PD} (h : SlIn Z 197 6 p.but.length (flatV p.but) bv) (t : PIn Z xs l) : PIn Z (pcl p bv ++ xs) (p :: l)
theorem PIn.mono {Z Z' : List Blk} {xs : List Value} {l : List PD} (h : PIn Z xs l) (hs : ∀ x ∈ Z, x ∈ Z') : PIn Z' xs l := by
  induction h with
  | nil => exact PIn.nil
  | cons h _ ih => exact PIn.cons (h.mono hs) ih
theorem PIn.app {Z : List Blk} {xs ys : List Value} {l m : List PD} (h : PIn Z xs l) (k : PIn Z ys m) : PIn Z (xs ++ ys) (l ++ m) := by
  induction h with
  | nil => exact k
  | cons h _ ih => rw [List.append_assoc]; exact PIn.cons h ih
theorem PIn.rep {Z L : List Blk} {w0 w : World} {xs : List Value} {l : List PD} (h : PIn Z xs l) (H : Blks w0 w L) (hs : ∀ x ∈ Z, x ∈ L) : PRep w w0.heap.size xs l := by
  induction h with
  | nil => exact PRep.nil
  | cons h _ ih => exact PRep.cons (h.owns H hs) ih
theorem addPs {L : List Blk} {w0 w1 : World} {base : Nat} {xs : List Value} {l : List PD} (hL : ∀ x ∈ L, x.1 < base) (hb : w0.heap.size ≤ base) (h : PRep w1 base xs l) :
    ∀ Z, Blks w0 w1 (L ++ Z) → ∃ Z', (∀ x ∈ Z, x ∈ Z') ∧ Blks w0 w1 (L ++ Z') ∧ PIn Z' xs l := by
  induction h with
  | nil => intro Z H; exact ⟨Z, fun _ h => h, H, PIn.nil⟩
  | cons h _ ih =>
    intro Z H
    obtain ⟨Z1, s1, H1, k1⟩ := addRow H hL hb h
    obtain ⟨Z2, s2, H2, k2⟩ := ih Z1 H1
    exact ⟨Z2, fun x hx => s2 x (s1 x hx), H2, PIn.cons (k1.mono s2) k2⟩
def RgIn (Z : List Blk) (v : Value) (l : List PD) : Prop := ∃ xs, SlIn Z 242 17 l.length xs v ∧ PIn Z xs l
theorem RgIn.at {Z L : List Blk} {w0 w : World} {v : Value} {l : List PD} (h : RgIn Z v l) (H : Blks w0 w L) (hs : ∀ x ∈ Z, x ∈ L) : RngAt w w0.heap.size v l := by
  obtain ⟨xs, h1, h2⟩ := h
  exact ⟨xs, h1.owns H hs, h2.rep H hs⟩
theorem RgIn.mono {Z Z' : List Blk} {v : Value} {l : List PD} (h : RgIn Z v l) (hs : ∀ x ∈ Z, x ∈ Z') : RgIn Z' v l := by
  obtain ⟨xs, h1, h2⟩ := h
  exact ⟨xs, h1.mono hs, h2.mono hs⟩
theorem RgIn.val {Z : List Blk} {v : Value} {l : List PD} (h : RgIn Z v l) : ∃ A c, v = .slice A l.length c ∧ l.length ≤ maxLen := by
  obtain ⟨xs, h1, _⟩ := h
  exact h1.val
def CnIn (Z : List Blk) (c : CnD) (x : Value) : Prop := match c with
  | .ver u => x = .iface 197 (.agg u.cells)
  | .rng l => ∃ rv, x = .iface 238 (.agg #[rv]) ∧ RgIn Z rv l
theorem CnIn.at {Z L : List Blk} {w0 w : World} {c : CnD} {x : Value} (h : CnIn Z c x) (H : Blks w0 w L) (hs : ∀ x ∈ Z, x ∈ L) : CnAt w w0.heap.size c x := by
  cases c with
  | ver u => exact h
  | rng l => obtain ⟨rv, h1, h2⟩ := h; exact ⟨rv, h1, h2.at H hs⟩
theorem CnIn.mono {Z Z' : List Blk} {c : CnD} {x : Value} (h : CnIn Z c x) (hs : ∀ x ∈ Z, x ∈ Z') : CnIn Z' c x := by
  cases c with
  | ver u => exact h
  | rng l => obtain ⟨rv, h1, h2⟩ := h; exact ⟨rv, h1, h2.mono hs⟩
theorem addCn {L : List Blk} {w0 w w1 : World} {c : CnD} {x : Value} (H : Blks w0 w L) (hb : Below w.heap.size w w1) (h : CnAt w1 w.heap.size c x) : ∃ Z, Blks w0 w1 (L ++ Z) ∧ CnIn Z c x := by
  have H1 : Blks w0 w1 (L ++ []) := by rw [List.append_nil]; exact H.call hb
  have hL : ∀ x ∈ L, x.1 < w.heap.size := fun x hx => hlt (H.has x hx)
  cases c with
  | ver u => exact ⟨[], H1, h⟩
  | rng l =>
    obtain ⟨rv, rfl, xs, h1, h2⟩ := h
    obtain ⟨Z1, _, H2, k1⟩ := addRow H1 hL H.bel.size h1
    obtain ⟨Z2, s2, H3, k2⟩ := addPs hL H.bel.size h2 Z1 H2
    exact ⟨Z2, H3, ⟨rv, rfl, xs, k1.mono s2, k2⟩⟩
theorem addRg {L : List Blk} {w0 w w1 : World} {l : List PD} {v : Value} (H : Blks w0 w L) (hb : Below w.heap.size w w1) (h : RngAt w1 w.heap.size v l) : ∃ Z, Blks w0 w1 (L ++ Z) ∧ RgIn Z v l := by
  have H1 : Blks w0 w1 (L ++ []) := by rw [List.append_nil]; exact H.call hb
  have hL : ∀ x ∈ L, x.1 < w.heap.size := fun x hx => hlt (H.has x hx)
  obtain ⟨xs, h1, h2⟩ := h
  obtain ⟨Z1, _, H2, k1⟩ := addRow H1 hL H.bel.size h1
  obtain ⟨Z2, s2, H3, k2⟩ := addPs hL H.bel.size h2 Z1 H2
  exact ⟨Z2, H3, xs, k1.mono s2, k2⟩
theorem addSt {L : List Blk} {w0 w w1 : World} {l : List ByteArray} {v : Value} (H : Blks w0 w L) (hb : Below w.heap.size w w1) (h : StrR w1 w.heap.size v l) : ∃ Z, Blks w0 w1 (L ++ Z) ∧ SlIn Z 9 1 l.length (l.map Value.string) v := by
  have H1 : Blks w0 w1 (L ++ []) := by rw [List.append_nil]; exact H.call hb
  have hL : ∀ x ∈ L, x.1 < w.heap.size := fun x hx => hlt (H.has x hx)
  obtain ⟨Z1, _, H2, k1⟩ := addRow H1 hL H.bel.size h
  exact ⟨Z1, H2, k1⟩
end Go.Proofs.YtgoeiflddikihaaGreatDoor.Ver
end
section
namespace Go.Proofs.YtgoeiflddikihaaGreatDoor.Ver
set_option linter.unusedSimpArgs false
set_option linter.unusedVariables false
open Go.RowKit Go.Proofs.YtgoeiflddikihaaGreatDoor.Dig Go.Proofs.YtgoeiflddikihaaGreatDoorW.PrintWords Go.Proofs.YtgoeiflddikihaaGreatDoor.PFnIntersectAny Go.Proofs.YtgoeiflddikihaaGreatDoor.Ord Go.Proofs.YtgoeiflddikihaaGreatDoor.Mem
set_option maxRecDepth 20000 in
set_option maxHeartbeats 16000000 in
theorem r1_bad (t u : ByteArray) (b : Bool) (hu : u = mkT (unSgL t.data.toList)) (w : World)
    (hP : ∀ W, Below w.heap.size w W → Calls Tryz.prog 150 #[.string (trimD u)] W fun e w' => (∃ a, e = .returned (.tuple #[.agg zSV, .int .i64 0, .iface 260 (.pointer (some a))])) ∧ Below W.heap.size W w')
    (hts : t.size ≤ 100000) : Calls Tryz.prog 141 #[.string t, .bool b] w (R1End none w) := by
  have HT := Lib.hid hts
  have HP := Lib.hid hP
  have HU := Lib.hid hu
  have HUZ := Lib.hid (show u.size ≤ 1000000000000 by have h1 := unSgL_len t.data.toList; have h2 : t.data.toList.length = t.size := Array.length_toList; have h3 : u.size = (unSgL t.data.toList).length := (by rw [hu, mkT_size]); omega)
  have HTR := Lib.hid (fun W (h : u.size ≤ 1000000000000) => trimD_calls u h W)
  have HM := Aside0.mk (Blks.start w)
  clear hts hu hP
  go_enter Tryz.func141, Tryz.ntmps141
  go_upto_block 0 with fail
  go_cut [0, 6] from 14 to 51 (fun v0 v6 wx => ∃ a : ByteArray, v0 = .string u ∧ v6 = .string a ∧ Aside0 (Blks w wx []))
  case first =>
   go_wp2_with fail
   go_loopw [0, 6] (fun v0 v6 wr => ∃ (s a : ByteArray), v0 = .string s ∧ v6 = .string a ∧ Hid (unSgL s.data.toList = unSgL t.data.toList) ∧ Hid (s.size + a.size = t.size) ∧ Aside0 (Blks w wr [])) (fun v0 _ _ => strL v0)
   case atStart => exact ⟨t, ⟨#[]⟩, rfl, rfl, Lib.hid rfl, Lib.hid rfl, ⟨n_own⟩⟩
   case round =>
     obtain ⟨s, a, rfl, rfl, HUS, HZ, HM1⟩ := hrel
     clear HM
     have HM := HM1
     clear HM1
     cases hl : s.data.toList with
     | nil =>
       have e0 : s.toList.isEmpty = true := by rw [ByteArray.toList_eq, hl]; rfl
       obtain rfl : s = u := by rw [HU.out, ← HUS.out, hl]; apply ByteArray.ext; apply Array.ext'; rw [hl]; rfl
       clear hl HUS
       go_wp2_with fail
       go_meet
       case rel => exact ⟨_, rfl, rfl, ⟨n_own⟩⟩
     | cons c l =>
       obtain ⟨h0, hc0, hx0, hx1⟩ := text_cons hl
       have e0 : s.toList.isEmpty = false := by rw [ByteArray.toList_eq, hl]; rfl
       cases hsc : isSg c with
       | false =>
         obtain ⟨q61, q33, q60, q62, q126, q94⟩ := sgq_no (show isSg s[0] = false by rw [hc0]; exact hsc)
         obtain rfl : s = u := by rw [HU.out, ← HUS.out, hl, unSgL, hsc, if_neg (by simp), ← hl, mkT_of]
         clear hl HUS hsc hc0 hx0 hx1
         go_wp2_with fail
         go_meet
         case rel => exact ⟨_, rfl, rfl, ⟨n_own⟩⟩
       | true =>
         have hs1 : (1 : Int) ≤ (s.size : Int) := by omega
         have hun : unSgL (s.extract 1 s.size).data.toList = unSgL t.data.toList := by
           rw [← HUS.out, hl, unSgL, hsc, if_pos rfl, hx1, mkT_list]
         have hz : (s.extract 1 s.size).size + (a ++ s.extract 0 1).size = t.size := by
           have := HZ.out
           rw [ByteArray.size_append, ByteArray.size_extract, ByteArray.size_extract]; omega
         have hmz : (s.extract 1 s.size).size < s.size := by rw [ByteArray.size_extract]; omega
         have hcat : ¬ (9223372036854775807 < a.size + min 1 s.size) := by have := HZ.out; have := HT.out; omega
         have HR2 := Lib.hid hun
         have HR3 := Lib.hid hz
         have HR4 := Lib.hid hmz
         clear hun hz hmz
         have hq := sgq_yes (show isSg s[0] = true by rw [hc0]; exact hsc)
         clear hl hx0 hx1 hsc hc0
         rcases hq with q61 | ⟨q61, q33⟩ | ⟨q61, q33, q60⟩ | ⟨q61, q33, q60, q62⟩ | ⟨q61, q33, q60, q62, q126⟩ | ⟨q61, q33, q60, q62, q126, q94⟩
         all_goals
           go_wp2_with fail
           exact ⟨⟨_, _, rfl, rfl, HR2, HR3, HM⟩, HR4.out⟩
  case rest =>
    obtain ⟨a, rfl, rfl, HM1⟩ := hcut
    clear HM
    have HM := HM1
    clear HM1
    go_wp2_with (first | (go_at_call 142; ((with_reducible refine (HTR.out _ HUZ.out).mono ?_); rintro e w4 ⟨rfl, ⟨nq, rfl⟩⟩; replace HM := n_drew nq)) | (go_at_call 150; ((with_reducible refine (HP.out _ n_bel).mono ?_); rintro e w5 ⟨⟨ae, rfl⟩, hb⟩; replace HM := n_call hb; clear hb)) | ((with_reducible refine id_load ?_); refine n_ld ?_) | ((with_reducible refine id_store ?_); (refine n_st ?_; clear HM; intro wq HM)) | ((with_reducible refine id_alloc ?_); (refine n_al ?_; clear HM; intro bq wq HM)))
    go_ret2
    exact R1End.bad HM.out.bel
end Go.Proofs.YtgoeiflddikihaaGreatDoor.Ver
end
section
namespace Go.Proofs.YtgoeiflddikihaaGreatDoor.Ver
set_option linter.unusedSimpArgs false
set_option linter.unusedVariables false
open Go.RowKit Go.Proofs.YtgoeiflddikihaaGreatDoorW.PrintWords Go.Proofs.YtgoeiflddikihaaGreatDoor.Mem Go.Proofs.YtgoeiflddikihaaGreatDoor.Ord
theorem ri_any (l : List PD) (hl : RngOk l) (bl : RngB l) (d : CnD) (hd : d.ok) (bd : ∀ m, d = .rng m → RngB m ∧ l.length * m.length ≤ 700000000000) (rv x : Value) (w : World) (hr : RngAt w 0 rv l) (hx : CnAt w 0 d x) :
    Calls Tryz.prog 295 #[.agg #[rv], x] w (CnEnd (isectD l d) w) := by
  cases d with
  | ver u =>
    obtain rfl := hx
    exact ri_ver l hl rv u hd w hr
  | rng m =>
    obtain ⟨qv, rfl, hq⟩ := hx
    obtain ⟨bm, hm⟩ := bd m rfl
    exact ri_rng l m hl hd bl bm hm rv qv w hr hq
theorem meetL_len (m : List PD) : ∀ (l acc : List PD), (meetL m acc l).length ≤ acc.length + l.length * m.length
  | [], acc => by rw [meetL]; omega
  | p :: l, acc => by
    have h1 := meetL_len m l (meetP p acc m)
    have h2 := meetP_len p m acc
    rw [meetL, List.length_cons, Nat.succ_mul]; omega
theorem bothD_but (p q : PD) : (bothD p q).but.length ≤ p.but.length + q.but.length := by
  have := keepB_len (bothH (bothL p q) q) (p.but ++ q.but) []
  rw [List.length_append, List.length_nil, Nat.zero_add] at this
  exact this
theorem meetP_but {p : PD} {x y : Nat} (hp : p.but.length ≤ x) : ∀ {m acc : List PD}, (∀ r ∈ acc, r.but.length ≤ x + y) → (∀ r ∈ m, r.but.length ≤ y) → ∀ r ∈ meetP p acc m, r.but.length ≤ x + y
  | [], acc, h, _ => h
  | q :: m, acc, h, hm => by
    rw [meetP]
    refine meetP_but hp (fun r hr => ?_) (fun r hr => hm r (List.mem_cons_of_mem _ hr))
    unfold keepE at hr
    split at hr
    · exact h r hr
    · rcases List.mem_append.1 hr with hr | hr
      · exact h r hr
      · rw [List.mem_singleton.1 hr]
        have h1 := bothD_but p q
        have h2 := hm q List.mem_cons_self
        omega
theorem meetL_but {m : List PD} {x y : Nat} (hm : ∀ r ∈ m, r.but.length ≤ y) : ∀ {l acc : List PD}, (∀ r ∈ acc, r.but.length ≤ x + y) → (∀ r ∈ l, r.but.length ≤ x) → ∀ r ∈ meetL m acc l, r.but.length ≤ x + y
  | [], acc, h, _ => h
  | p :: l, acc, h, hl => by
    rw [meetL]
    exact meetL_but hm (meetP_but (hl p List.mem_cons_self) h hm) (fun r hr => hl r (List.mem_cons_of_mem _ hr))
theorem nums_cnt : ∀ (m : Nat) (acc ns : List Nat) (l r : List UInt8), nums m acc l = some (ns, r) → acc.length < ns.length ∧ ns.length ≤ acc.length + m
  | 0, _, _, _, _, h => by simp [nums] at h
  | m + 1, acc, ns, l, r, h => by
    rw [nums] at h
    split at h
    · cases h
    · split at h
      · have := nums_cnt m _ _ _ _ h
        rw [List.length_append, List.length_singleton] at this
        omega
      · simp at h
        obtain ⟨rfl, rfl⟩ := h
        rw [List.length_append, List.length_singleton]
        omega
theorem readV_cnt {s : ByteArray} {v : SV} {k : Nat} (h : readV s = some (v, k)) : 1 ≤ k ∧ k ≤ 3 := by
  unfold readV at h
  split at h
  · cases h
  · rename_i ns r hn
    have := nums_cnt _ _ _ _ _ hn
    split at h
    · cases h
    · split at h
      · cases h
      · split at h
        · simp at h
          obtain ⟨_, rfl⟩ := h
          have h1 : 0 < ns.length := this.1
          have h2 : ns.length ≤ 0 + 3 := this.2
          omega
        · cases h
theorem stripW_size : ∀ (n : Nat) (s : ByteArray), (stripW n s).size ≤ s.size
  | 0, s => Nat.le_refl _
  | n + 1, s => by
    rw [stripW]
    split
    · rename_i h
      have := (strip_size h).1
      exact Nat.le_trans (stripW_size n _) (by omega)
    · exact Nat.le_refl _
theorem stripA_size (s : ByteArray) : (stripA s).size ≤ s.size := stripW_size _ _
theorem partV_ok {s : ByteArray} {v : SV} {k : Nat} (hs : s.size ≤ 100000) (h : partV s = some (v, k)) : SVok v ∧ k ≤ 3 := by
  unfold partV at h
  split at h
  · cases h
  · split at h
    · simp at h
      obtain ⟨rfl, rfl⟩ := h
      exact ⟨ok_z, by decide⟩
    · exact ⟨(readV_ok' (by have := stripA_size s; omega) h).1, (readV_cnt h).2⟩
theorem termD_is {op : Bs} {v : SV} {n : Nat} {c : CnD} (hv : SVok v) (h : termD op v n = some c) : c.ok ∧ ∀ m, c = .rng m → (∀ r ∈ m, r.but.length ≤ 1) ∧ m.length ≤ 2 ∧ (m.length = 2 → op = [33, 61]) := by
  have oz : PDok zPD := ⟨ok_z, ok_z, fun x hx => by cases hx⟩
  have a := fun k => afterV_ok hv k
  have one : ∀ {p : PD}, PDok p → p.but.length ≤ 1 → CnD.rng [p] = c → c.ok ∧ ∀ m, c = .rng m → (∀ r ∈ m, r.but.length ≤ 1) ∧ m.length ≤ 2 ∧ (m.length = 2 → op = [33, 61]) := by
    rintro p hp hb rfl
    refine ⟨fun x hx => by rw [List.mem_singleton.1 hx]; exact hp, fun m hm => ?_⟩
    injection hm with hm
    subst hm
    exact ⟨fun r hr => by rw [List.mem_singleton.1 hr]; exact hb, by simp, fun h => by simp at h⟩
  have no : CnD.rng [] = c → c.ok ∧ ∀ m, c = .rng m → (∀ r ∈ m, r.but.length ≤ 1) ∧ m.length ≤ 2 ∧ (m.length = 2 → op = [33, 61]) := by
    rintro rfl
    refine ⟨fun x hx => (by cases hx), fun m hm => ?_⟩
    injection hm with hm
    subst hm
    exact ⟨fun r hr => (by cases hr), by simp, fun h => by simp at h⟩
  have ver : CnD.ver v = c → c.ok ∧ ∀ m, c = .rng m → (∀ r ∈ m, r.but.length ≤ 1) ∧ m.length ≤ 2 ∧ (m.length = 2 → op = [33, 61]) := by
    rintro rfl
    exact ⟨hv, fun m hm => by cases hm⟩
  have oI : ∀ k, PDok (inP v (afterV v k)) := fun k => ⟨hv, a k, fun x hx => by cases hx⟩
  have oL : ∀ {u}, SVok u → PDok (loP u) := fun h => ⟨h, ok_z, fun x hx => by cases hx⟩
  have oH : ∀ {u}, SVok u → PDok (hiP u) := fun h => ⟨ok_z, h, fun x hx => by cases hx⟩
  unfold termD at h
  split at h
  · split at h
    · exact one oz (by decide) (Option.some.inj h)
    · split at h
      · exact no (Option.some.inj h)
      · cases h
  split at h
  · have h := Option.some.inj h
    split at h
    · exact ver h
    · exact one (oI _) (by simp [inP, zPD]) h
  split at h
  · rename_i hop
    have h := Option.some.inj h
    split at h
    · exact one (p := { zPD with but := [v] }) ⟨ok_z, ok_z, fun x hx => by rw [List.mem_singleton.1 hx]; exact hv⟩ (by simp) h
    · subst h
      refine ⟨fun x hx => ?_, fun m hm => ?_⟩
      · rcases List.mem_cons.1 hx with rfl | hx
        · exact oH hv
        · rw [List.mem_singleton.1 hx]; exact oL (a _)
      · injection hm with hm
        subst hm
        refine ⟨fun r hr => ?_, by simp, fun _ => hop⟩
        rcases List.mem_cons.1 hr with rfl | hr
        · exact Nat.zero_le _
        · rw [List.mem_singleton.1 hr]; exact Nat.zero_le _
  split at h
  · have h := Option.some.inj h
    split at h
    · exact one (p := { zPD with lo := v, hl := true }) ⟨hv, ok_z, fun x hx => by cases hx⟩ (by simp [zPD]) h
    · exact one (oL (a _)) (by simp [loP, zPD]) h
  split at h
  · exact one (oL hv) (by simp [loP, zPD]) (Option.some.inj h)
  split at h
  · exact one (oH hv) (by simp [hiP, zPD]) (Option.some.inj h)
  split at h
  · have h := Option.some.inj h
    split at h
    · exact one (p := { hiP v with wh := true }) ⟨ok_z, hv, fun x hx => by cases hx⟩ (by simp [hiP, zPD]) h
    · exact one (oH (a _)) (by simp [hiP, zPD]) h
  split at h
  · exact one (oI _) (by simp [inP, zPD]) (Option.some.inj h)
  split at h
  · exact one (oI _) (by simp [inP, zPD]) (Option.some.inj h)
  · cases h
theorem read1D_is {t : ByteArray} {b : Bool} {c : CnD} (ht : t.size ≤ 100000) (h : read1D t b = some c) : c.ok ∧ ∀ m, c = .rng m → (∀ r ∈ m, r.but.length ≤ 1) ∧ m.length ≤ 2 ∧ (m.length = 2 → 3 ≤ t.size) := by
  unfold read1D at h
  have hl : t.data.toList.length = t.size := Array.length_toList
  have hus : (mkT (unSgL t.data.toList)).size ≤ t.size := by
    rw [mkT_size]; have := unSgL_len t.data.toList; omega
  have hts := trimD_size (mkT (unSgL t.data.toList))
  split at h
  · cases h
  · rename_i v n hp
    obtain ⟨h1, h2⟩ := termD_is (partV_ok (by omega) hp).1 h
    refine ⟨h1, fun m hm => ?_⟩
    obtain ⟨k1, k2, k3⟩ := h2 m hm
    refine ⟨k1, k2, fun hl2 => ?_⟩
    have hop := k3 hl2
    have hsg : sgL t.data.toList = [33, 61] := by
      split at hop
      · cases hop
      · exact hop
    have happ := sg_app t.data.toList
    rw [hsg] at happ
    have hlen := congrArg List.length happ
    rw [List.length_append, hl] at hlen
    have hne : (unSgL t.data.toList).length ≠ 0 := by
      intro h0
      have : trimD (mkT (unSgL t.data.toList)) = mkT [] := by
        rw [List.length_eq_zero_iff.1 h0]; rfl
      rw [this] at hp
      unfold partV at hp
      rw [if_pos (mkT_tolist [])] at hp
      cases hp
    simp at hlen
    omega
def TB (B j : Nat) (c : CnD) : Prop := c.ok ∧ ∀ l, c = .rng l → (∀ r ∈ l, r.but.length ≤ j) ∧ ∃ q, 4 * q ≤ B ∧ l.length ≤ 2 ^ q
theorem TB.zero : TB 0 0 (.rng [zPD]) := ⟨fun x hx => by rw [List.mem_singleton.1 hx]; exact ⟨ok_z, ok_z, fun x hx => by cases hx⟩, fun l hl => by
  injection hl with hl
  subst hl
  exact ⟨fun r hr => by rw [List.mem_singleton.1 hr]; exact Nat.zero_le _, 0, by decide, by decide⟩⟩
theorem isectV_TB {B j : Nat} {u : SV} {c : CnD} (hu : SVok u) : TB B j (isectV u c) := by
  unfold isectV
  split
  · exact ⟨hu, fun l hl => by cases hl⟩
  · exact ⟨fun x hx => (List.not_mem_nil hx).elim, fun l hl => by
      injection hl with hl
      subst hl
      exact ⟨fun r hr => (by cases hr), 0, Nat.zero_le _, Nat.zero_le _⟩⟩
theorem TB.step {B j s : Nat} {c d : CnD} {t : ByteArray} {b : Bool} (h : TB B j c) (hd : read1D t b = some d) (ht : t.size ≤ s) (hs : s ≤ 100000) : TB (B + (s + 1)) (j + 1) (meetC c d) := by
  obtain ⟨d1, d2⟩ := read1D_is (by omega) hd
  obtain ⟨c1, c2⟩ := h
  cases c with
  | ver u => exact isectV_TB c1
  | rng l =>
    cases d with
    | ver u => exact isectV_TB d1
    | rng m =>
      obtain ⟨b1, q, hq, hlq⟩ := c2 l rfl
      obtain ⟨e1, e2, e3⟩ := d2 m rfl
      refine ⟨meetL_ok d1 (fun x hx => by cases hx) c1, fun l' hl' => ?_⟩
      injection hl' with hl'
      subst hl'
      refine ⟨meetL_but e1 (fun r hr => by cases hr) b1, ?_⟩
      have hlen := meetL_len m l []
      rw [List.length_nil, Nat.zero_add] at hlen
      by_cases h2 : m.length = 2
      · have := e3 h2
        refine ⟨q + 1, by omega, Nat.le_trans hlen ?_⟩
        rw [h2, Nat.pow_succ]
        exact Nat.mul_le_mul_right _ hlq
      · refine ⟨q, by omega, Nat.le_trans hlen ?_⟩
        have h1 : m.length ≤ 1 := by omega
        calc l.length * m.length ≤ l.length * 1 := Nat.mul_le_mul_left _ h1
          _ ≤ 2 ^ q := by rw [Nat.mul_one]; exact hlq
theorem TB.pow {B j : Nat} {l : List PD} (h : TB B j (.rng l)) (hB : B ≤ 97) : l.length ≤ 16777216 := by
  obtain ⟨_, q, hq, hl⟩ := h.2 l rfl
  exact Nat.le_trans hl (Nat.le_trans (Nat.pow_le_pow_right (by decide) (by omega : q ≤ 24)) (by decide))
theorem TB.isect {B j : Nat} {l : List PD} {d : CnD} {t : ByteArray} {b : Bool} (h : TB B j (.rng l)) (hB : B ≤ 97) (hj : j ≤ 100) (ht : t.size ≤ 100000) (hd : read1D t b = some d) : RngB l ∧ ∀ m, d = .rng m → RngB m ∧ l.length * m.length ≤ 700000000000 := by
  have h1 := h.pow hB
  obtain ⟨b1, _⟩ := h.2 l rfl
  obtain ⟨_, d2⟩ := read1D_is ht hd
  refine ⟨fun p hp => by have := b1 p hp; omega, fun m hm => ?_⟩
  obtain ⟨e1, e2, _⟩ := d2 m hm
  refine ⟨fun p hp => by have := e1 p hp; omega, ?_⟩
  calc l.length * m.length ≤ 16777216 * 2 := Nat.mul_le_mul h1 e2
    _ ≤ 700000000000 := by decide
theorem TB.pieces {B j : Nat} {c : CnD} (h : TB B j c) (hB : B ≤ 97) : (piecesD c).length ≤ 16777216 := by
  cases c with
  | ver u => show 1 ≤ 16777216; decide
  | rng l => exact h.pow hB
theorem splitL_sum (sep : Bs) (h1 : 1 ≤ sep.length) : ∀ (n : Nat) (cur l : Bs), l.length ≤ n → ((splitL sep n cur l).map (fun x => x.length + sep.length)).sum = cur.length + l.length + sep.length
  | 0, cur, l, h => by simp [splitL]
  | n + 1, cur, [], _ => by simp [splitL]
  | n + 1, cur, c :: r, h => by
    rw [List.length_cons] at h
    rw [splitL]
    split
    · rename_i he
      have hl := congrArg List.length he
      rw [List.length_take, List.length_cons] at hl
      have := splitL_sum sep h1 n [] ((c :: r).drop sep.length) (by rw [List.length_drop, List.length_cons]; omega)
      rw [List.map_cons, List.sum_cons, this, List.length_drop, List.length_cons, List.length_nil]
      omega
    · have := splitL_sum sep h1 n (cur ++ [c]) r (by omega)
      rw [this, List.length_append, List.length_singleton, List.length_cons]
      omega
theorem splitD_sum (sep s : ByteArray) (h1 : 1 ≤ sep.size) : ((splitD sep s).map (fun x => x.size + sep.size)).sum = s.size + sep.size := by
  have e1 : sep.data.toList.length = sep.size := Array.length_toList
  have e2 : s.data.toList.length = s.size := Array.length_toList
  have := splitL_sum sep.data.toList (by omega) s.size [] s.data.toList (by omega)
  rw [e1, e2, List.length_nil, Nat.zero_add] at this
  unfold splitD
  rw [List.map_map, ← this]
  congr 1
theorem sum_mem {l : List ByteArray} {k : Nat} {x : ByteArray} (h : x ∈ l) : x.size + k ≤ (l.map (fun x => x.size + k)).sum := by
  induction l with
  | nil => cases h
  | cons a l ih =>
    rw [List.map_cons, List.sum_cons]
    rcases List.mem_cons.1 h with rfl | h
    · omega
    · have := ih h; omega
theorem sum_len (l : List ByteArray) (k : Nat) : l.length * k ≤ (l.map (fun x => x.size + k)).sum := by
  induction l with
  | nil => simp
  | cons a l ih => rw [List.map_cons, List.sum_cons, List.length_cons, Nat.succ_mul]; omega
theorem splitD_size {sep s x : ByteArray} (h1 : 1 ≤ sep.size) (h : x ∈ splitD sep s) : x.size ≤ s.size := by
  have h2 := splitD_sum sep s h1
  have h3 := sum_mem (k := sep.size) h
  omega
theorem splitD_len {sep s : ByteArray} (h1 : 1 ≤ sep.size) : (splitD sep s).length * sep.size ≤ s.size + sep.size := by
  have h2 := splitD_sum sep s h1
  have h3 := sum_len (splitD sep s) sep.size
  omega
abbrev barsT : ByteArray := ⟨#[124, 124]⟩
abbrev commaT : ByteArray := ⟨#[44]⟩
def conV (t : ByteArray) (b : Bool) : Option CnD :=
  match altsD b [] none (splitD barsT t) with
  | none => none
  | some (l, o) => some (if (splitD barsT t).length = 1 then o.getD (.rng l) else .rng l)
end Go.Proofs.YtgoeiflddikihaaGreatDoor.Ver
end
