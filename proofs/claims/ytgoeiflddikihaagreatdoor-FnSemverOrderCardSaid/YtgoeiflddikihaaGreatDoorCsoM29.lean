/- Merged by program out of: PartW. -/
import Derived.Test.YtgoeiflddikihaaGreatDoorCsoM3
import Derived.Test.YtgoeiflddikihaaGreatDoorCsoM26
section
namespace Go.Proofs.YtgoeiflddikihaaGreatDoor.Ver
set_option linter.unusedSimpArgs false
set_option linter.unusedVariables false
open Go.RowKit Go.Proofs.YtgoeiflddikihaaGreatDoor.Dig Go.Proofs.YtgoeiflddikihaaGreatDoorW.PrintWords Go.Proofs.YtgoeiflddikihaaGreatDoor.PFnIntersectAny Go.Proofs.YtgoeiflddikihaaGreatDoor.Ord Go.Proofs.YtgoeiflddikihaaGreatDoor.Mem
theorem ix_eq (u : ByteArray) {i : Int} {k : Nat} (h : i = (k : Int)) (hk : k < u.size) : ∀ h' : i.toNat < u.size, u[i.toNat]'h' = u[k] := by
  subst h
  intro h'
  simp only [Int.toNat_natCast]
theorem ix_in (u : ByteArray) {i : Int} {k : Nat} (h : i = (k : Int)) (hk : k < u.size) : 0 ≤ i ∧ i.toNat < u.size ∧ i < (u.size : Int) := by
  subst h
  exact ⟨by omega, by rw [Int.toNat_natCast]; exact hk, by omega⟩
def strL (v : Value) : Nat := match v with
  | .string s => s.size
  | _ => 0
set_option maxRecDepth 20000 in
set_option maxHeartbeats 8000000 in
theorem part_none (t : ByteArray) (ht : t.size ≤ 100000) (h0 : t.toList ≠ []) (h1 : t.toList ≠ [120]) (h2 : t.toList ≠ [88]) (h3 : t.toList ≠ [42]) (hrv : readV (stripA t) = none) (w : World) (hv : Vars w) :
    Calls Tryz.prog 150 #[.string t] w (ReadEnd (stripA t) w) := by
  have HV := Lib.hid hv
  have HRV := Lib.hid hrv
  have e0 : t.toList.isEmpty = false := by cases h : t.toList with
    | nil => exact absurd h h0
    | cons => rfl
  have e1 : (t.toList == ([120] : List UInt8)) = false := beq_eq_false_iff_ne.2 h1
  have e2 : (t.toList == ([88] : List UInt8)) = false := beq_eq_false_iff_ne.2 h2
  have e3 : (t.toList == ([42] : List UInt8)) = false := beq_eq_false_iff_ne.2 h3
  have HM := Aside0.mk (Blks.start w)
  have HT := Lib.hid ht
  clear hv h0 h1 h2 h3 ht hrv
  go_enter Tryz.func150, Tryz.ntmps150
  go_wp2_with ((with_reducible refine id_alloc ?_); (refine n_al ?_; clear HM; intro b2 wq HM))
  clear e0 e1 e2 e3
  go_loopw [0] (fun v0 wr => ∃ u : ByteArray, v0 = .string u ∧ Hid (stripA u = stripA t) ∧ Hid (u.size ≤ 100000) ∧ Aside0 (Blks w wr [(b2, zSV.toList, 197)])) (fun v0 _ => strL v0)
  case atStart => exact ⟨t, rfl, Lib.hid rfl, HT, ⟨n_own⟩⟩
  case round =>
    obtain ⟨u, rfl, HS, HU, HM1⟩ := hrel
    clear HM
    have HM := HM1
    clear HM1
    by_cases g2 : 2 < u.size
    · have hu := HU.out
      have d2 : decide ((2 : Int) < (u.size : Int)) = true := decide_eq_true (by omega)
      have z2 : u.size - 2 < u.size := by omega
      have z1 : u.size - 1 < u.size := by omega
      have hq0 : stripQ u = ((u[u.size - 2]'z2 == 46 && wildC (u[u.size - 1]'z1)) && plainB (u.extract 0 (u.size - 2))) := by unfold stripQ; rw [dif_pos g2]
      have W2 : wrap64 ((u.size : Int) - 2) = ((u.size - 2 : Nat) : Int) := by rw [wrap_in (by omega) (by omega)]; omega
      have hq2 := ix_eq u W2 (by omega)
      have hx2 : u.extract 0 (wrap64 ((u.size : Int) - 2)).toNat = u.extract 0 (u.size - 2) := by rw [W2, Int.toNat_natCast]
      obtain ⟨a2, b2', c2⟩ := ix_in u W2 (by omega)
      have HW2 := Lib.hid W2
      clear W2
      have W1 : wrap64 ((u.size : Int) - 1) = ((u.size - 1 : Nat) : Int) := by clear a2 b2' c2 hq2 hx2; rw [wrap_in (by omega) (by omega)]; omega
      have hq1 := ix_eq u W1 (by clear a2 b2' c2 hq2 hx2; omega)
      obtain ⟨a1, b1, c1⟩ := ix_in u W1 (by clear a2 b2' c2 hq2 hx2; omega)
      clear W1
      have HPN : Hid (∀ W, Calls Tryz.prog 155 #[.string (u.extract 0 (wrap64 ((u.size : Int) - 2)).toNat)] W fun e w' => e = .returned (.bool (plainB (u.extract 0 (u.size - 2)))) ∧ Drawn0 W w') := Lib.hid (fun W => by
        rw [hx2]
        exact plainB_calls (u.extract 0 (u.size - 2)) (by clear a2 b2' c2 hq2 hx2 a1 b1 c1 hq1; rw [ByteArray.size_extract]; omega) W)
      clear hu
      by_cases ha : u[u.size - 2]'z2 = 46
      · have q46 : (((u[(wrap64 ((u.size : Int) - 2)).toNat]'(b2')).toNat : Int) == 46) = true := by rw [hq2, ha]; rfl
        rw [ha] at hq0
        by_cases hb : u[u.size - 1]'z1 = 120 ∨ u[u.size - 1]'z1 = 88 ∨ u[u.size - 1]'z1 = 42
        · have hwc : wildC (u[u.size - 1]'z1) = true := by rcases hb with h | h | h <;> rw [h] <;> rfl
          rw [hwc] at hq0
          have hwq : ((((u[(wrap64 ((u.size : Int) - 1)).toNat]'(b1)).toNat : Int) == 120) = true) ∨ ((((u[(wrap64 ((u.size : Int) - 1)).toNat]'(b1)).toNat : Int) == 120) = false ∧ (((u[(wrap64 ((u.size : Int) - 1)).toNat]'(b1)).toNat : Int) == 88) = true) ∨ ((((u[(wrap64 ((u.size : Int) - 1)).toNat]'(b1)).toNat : Int) == 120) = false ∧ (((u[(wrap64 ((u.size : Int) - 1)).toNat]'(b1)).toNat : Int) == 88) = false ∧ (((u[(wrap64 ((u.size : Int) - 1)).toNat]'(b1)).toNat : Int) == 42) = true) := by
            rw [hq1]
            rcases hb with h | h | h <;> rw [h] <;> decide
          clear hq1 hq2 ha hb hwc
          cases hpb : plainB (u.extract 0 (u.size - 2)) with
          | true =>
            have hq : stripQ u = true := by rw [hq0, hpb]; rfl
            rw [hpb] at HPN
            have HS2 := Lib.hid ((congrArg stripA hx2).trans ((stripA_yes hq).symm.trans HS.out))
            have hz := (strip_size hq).1
            have hz2 : (u.extract 0 (wrap64 ((u.size : Int) - 2)).toNat).size + 2 = u.size := by rw [hx2]; exact hz
            have HU2 := Lib.hid (Nat.le_trans (Nat.le.intro hz2) HU.out)
            have HLT := Lib.hid (Nat.lt_of_lt_of_le (Nat.lt_add_of_pos_right (by decide : 0 < 2)) (Nat.le_of_eq hz2))
            clear hq hq0 hpb hz hz2 hx2
            rcases hwq with q120 | ⟨q120, q88⟩ | ⟨q120, q88, q42⟩
            all_goals
              go_wp2_with (go_at_call 155; ((with_reducible refine (HPN.out _).mono ?_); rintro e w' ⟨rfl, ⟨nq, rfl⟩⟩; replace HM := n_drew nq))
              exact ⟨⟨_, rfl, HS2, HU2, HM⟩, HLT.out⟩
          | false =>
            have hq : stripQ u = false := by rw [hq0, hpb]; rfl
            rw [hpb] at HPN
            have HQ := Lib.hid hq
            clear hq hq0 hpb hx2
            rcases hwq with q120 | ⟨q120, q88⟩ | ⟨q120, q88, q42⟩
            all_goals
              have HUU := Lib.hid (show u = stripA t by rw [← HS.out, stripA_no HQ.out])
              have HRD := Lib.hid (fun W hb => read_any u (by have := HU.out; omega) W (Vars.below (w := w) HV.out hb))
              go_wp2_with (first | (go_at_call 155; ((with_reducible refine (HPN.out _).mono ?_); rintro e w' ⟨rfl, ⟨nq, rfl⟩⟩; replace HM := n_drew nq)) | (go_at_call 143; ((with_reducible refine (HRD.out _ n_bel).mono ?_); intro e wd hre; unfold ReadEnd at hre; rw [HUU.out, HRV.out] at hre; (try dsimp only [SV.cells] at hre); obtain ⟨hb, ae, rfl⟩ := hre; replace HM := n_call hb; clear hb)) | ((with_reducible refine id_store ?_); (refine n_st ?_; clear HM; intro wq HM)))
              refine bodyPost_ret (results_ctt rfl _ _ b2 197 ([.int .u64 0, .int .u64 0, .int .u64 0, .string ⟨#[]⟩, .string ⟨#[]⟩, .string ⟨#[]⟩] : List Value).toArray (0, 0) _ rfl (HM.out.has (b2, [.int .u64 0, .int .u64 0, .int .u64 0, .string ⟨#[]⟩, .string ⟨#[]⟩, .string ⟨#[]⟩], 197) n_mem) Tryz.underlying197 rfl (by kernel_rfl)) rfl ⟨HM.out.bel, by rw [HRV.out]; exact ⟨_, rfl⟩⟩
        · have hwc : wildC (u[u.size - 1]'z1) = false := by
            cases hw : wildC (u[u.size - 1]'z1) with
            | false => rfl
            | true => exact absurd (by simpa [wildC] using hw) hb
          have key : ∀ k : UInt8, u[u.size - 1]'z1 ≠ k → (((u[(wrap64 ((u.size : Int) - 1)).toNat]'(b1)).toNat : Int) == ((k.toNat : Nat) : Int)) = false := by
            intro k hk
            rw [hq1]
            exact beq_eq_false_iff_ne.2 fun e => hk (UInt8.toNat_inj.1 (Int.ofNat.inj e))
          have q120 := key 120 (fun h => hb (Or.inl h))
          have q88 := key 88 (fun h => hb (Or.inr (Or.inl h)))
          have q42 := key 42 (fun h => hb (Or.inr (Or.inr h)))
          replace q120 : (((u[(wrap64 ((u.size : Int) - 1)).toNat]'(b1)).toNat : Int) == 120) = false := q120
          replace q88 : (((u[(wrap64 ((u.size : Int) - 1)).toNat]'(b1)).toNat : Int) == 88) = false := q88
          replace q42 : (((u[(wrap64 ((u.size : Int) - 1)).toNat]'(b1)).toNat : Int) == 42) = false := q42
          have hq : stripQ u = false := by rw [hq0, hwc]; rfl
          have HQ := Lib.hid hq
          clear hq hq0 hb hwc key hq1 hq2 ha hx2
          have HUU := Lib.hid (show u = stripA t by rw [← HS.out, stripA_no HQ.out])
          have HRD := Lib.hid (fun W hb => read_any u (by have := HU.out; omega) W (Vars.below (w := w) HV.out hb))
          go_wp2_with (first | (go_at_call 143; ((with_reducible refine (HRD.out _ n_bel).mono ?_); intro e wd hre; unfold ReadEnd at hre; rw [HUU.out, HRV.out] at hre; (try dsimp only [SV.cells] at hre); obtain ⟨hb, ae, rfl⟩ := hre; replace HM := n_call hb; clear hb)) | ((with_reducible refine id_store ?_); (refine n_st ?_; clear HM; intro wq HM)))
          refine bodyPost_ret (results_ctt rfl _ _ b2 197 ([.int .u64 0, .int .u64 0, .int .u64 0, .string ⟨#[]⟩, .string ⟨#[]⟩, .string ⟨#[]⟩] : List Value).toArray (0, 0) _ rfl (HM.out.has (b2, [.int .u64 0, .int .u64 0, .int .u64 0, .string ⟨#[]⟩, .string ⟨#[]⟩, .string ⟨#[]⟩], 197) n_mem) Tryz.underlying197 rfl (by kernel_rfl)) rfl ⟨HM.out.bel, by rw [HRV.out]; exact ⟨_, rfl⟩⟩
      · have hq : stripQ u = false := by
          have h46 : (u[u.size - 2]'z2 == (46 : UInt8)) = false := beq_eq_false_iff_ne.2 ha
          rw [hq0, h46]; rfl
        have q46 : (((u[(wrap64 ((u.size : Int) - 2)).toNat]'(b2')).toNat : Int) == 46) = false := by
          rw [hq2]
          exact beq_eq_false_iff_ne.2 fun e => ha (UInt8.toNat_inj.1 (Int.ofNat.inj e))
        have HQ := Lib.hid hq
        clear hq hq0 ha hq1 hq2 hx2
        have HUU := Lib.hid (show u = stripA t by rw [← HS.out, stripA_no HQ.out])
        have HRD := Lib.hid (fun W hb => read_any u (by have := HU.out; omega) W (Vars.below (w := w) HV.out hb))
        go_wp2_with (first | (go_at_call 143; ((with_reducible refine (HRD.out _ n_bel).mono ?_); intro e wd hre; unfold ReadEnd at hre; rw [HUU.out, HRV.out] at hre; (try dsimp only [SV.cells] at hre); obtain ⟨hb, ae, rfl⟩ := hre; replace HM := n_call hb; clear hb)) | ((with_reducible refine id_store ?_); (refine n_st ?_; clear HM; intro wq HM)))
        refine bodyPost_ret (results_ctt rfl _ _ b2 197 ([.int .u64 0, .int .u64 0, .int .u64 0, .string ⟨#[]⟩, .string ⟨#[]⟩, .string ⟨#[]⟩] : List Value).toArray (0, 0) _ rfl (HM.out.has (b2, [.int .u64 0, .int .u64 0, .int .u64 0, .string ⟨#[]⟩, .string ⟨#[]⟩, .string ⟨#[]⟩], 197) n_mem) Tryz.underlying197 rfl (by kernel_rfl)) rfl ⟨HM.out.bel, by rw [HRV.out]; exact ⟨_, rfl⟩⟩
    · have d2 : decide ((2 : Int) < (u.size : Int)) = false := decide_eq_false (by omega)
      have hq : stripQ u = false := by unfold stripQ; rw [dif_neg g2]
      have HQ := Lib.hid hq
      clear hq
      have HUU := Lib.hid (show u = stripA t by rw [← HS.out, stripA_no HQ.out])
      have HRD := Lib.hid (fun W hb => read_any u (by have := HU.out; omega) W (Vars.below (w := w) HV.out hb))
      go_wp2_with (first | (go_at_call 143; ((with_reducible refine (HRD.out _ n_bel).mono ?_); intro e wd hre; unfold ReadEnd at hre; rw [HUU.out, HRV.out] at hre; (try dsimp only [SV.cells] at hre); obtain ⟨hb, ae, rfl⟩ := hre; replace HM := n_call hb; clear hb)) | ((with_reducible refine id_store ?_); (refine n_st ?_; clear HM; intro wq HM)))
      refine bodyPost_ret (results_ctt rfl _ _ b2 197 ([.int .u64 0, .int .u64 0, .int .u64 0, .string ⟨#[]⟩, .string ⟨#[]⟩, .string ⟨#[]⟩] : List Value).toArray (0, 0) _ rfl (HM.out.has (b2, [.int .u64 0, .int .u64 0, .int .u64 0, .string ⟨#[]⟩, .string ⟨#[]⟩, .string ⟨#[]⟩], 197) n_mem) Tryz.underlying197 rfl (by kernel_rfl)) rfl ⟨HM.out.bel, by rw [HRV.out]; exact ⟨_, rfl⟩⟩
set_option maxRecDepth 20000 in
set_option maxHeartbeats 8000000 in
theorem part_some (t : ByteArray) (ht : t.size ≤ 100000) (h0 : t.toList ≠ []) (h1 : t.toList ≠ [120]) (h2 : t.toList ≠ [88]) (h3 : t.toList ≠ [42]) (va vb vc : Int) (vp vm vo : ByteArray) (ct : Nat) (hrv : readV (stripA t) = some (⟨va, vb, vc, vp, vm, vo⟩, ct)) (w : World) (hv : Vars w) :
    Calls Tryz.prog 150 #[.string t] w (ReadEnd (stripA t) w) := by
  have HV := Lib.hid hv
  have HRV := Lib.hid hrv
  have e0 : t.toList.isEmpty = false := by cases h : t.toList with
    | nil => exact absurd h h0
    | cons => rfl
  have e1 : (t.toList == ([120] : List UInt8)) = false := beq_eq_false_iff_ne.2 h1
  have e2 : (t.toList == ([88] : List UInt8)) = false := beq_eq_false_iff_ne.2 h2
  have e3 : (t.toList == ([42] : List UInt8)) = false := beq_eq_false_iff_ne.2 h3
  have HM := Aside0.mk (Blks.start w)
  have HT := Lib.hid ht
  clear hv h0 h1 h2 h3 ht hrv
  go_enter Tryz.func150, Tryz.ntmps150
  go_wp2_with ((with_reducible refine id_alloc ?_); (refine n_al ?_; clear HM; intro b2 wq HM))
  clear e0 e1 e2 e3
  go_loopw [0] (fun v0 wr => ∃ u : ByteArray, v0 = .string u ∧ Hid (stripA u = stripA t) ∧ Hid (u.size ≤ 100000) ∧ Aside0 (Blks w wr [(b2, zSV.toList, 197)])) (fun v0 _ => strL v0)
  case atStart => exact ⟨t, rfl, Lib.hid rfl, HT, ⟨n_own⟩⟩
  case round =>
    obtain ⟨u, rfl, HS, HU, HM1⟩ := hrel
    clear HM
    have HM := HM1
    clear HM1
    by_cases g2 : 2 < u.size
    · have hu := HU.out
      have d2 : decide ((2 : Int) < (u.size : Int)) = true := decide_eq_true (by omega)
      have z2 : u.size - 2 < u.size := by omega
      have z1 : u.size - 1 < u.size := by omega
      have hq0 : stripQ u = ((u[u.size - 2]'z2 == 46 && wildC (u[u.size - 1]'z1)) && plainB (u.extract 0 (u.size - 2))) := by unfold stripQ; rw [dif_pos g2]
      have W2 : wrap64 ((u.size : Int) - 2) = ((u.size - 2 : Nat) : Int) := by rw [wrap_in (by omega) (by omega)]; omega
      have hq2 := ix_eq u W2 (by omega)
      have hx2 : u.extract 0 (wrap64 ((u.size : Int) - 2)).toNat = u.extract 0 (u.size - 2) := by rw [W2, Int.toNat_natCast]
      obtain ⟨a2, b2', c2⟩ := ix_in u W2 (by omega)
      have HW2 := Lib.hid W2
      clear W2
      have W1 : wrap64 ((u.size : Int) - 1) = ((u.size - 1 : Nat) : Int) := by clear a2 b2' c2 hq2 hx2; rw [wrap_in (by omega) (by omega)]; omega
      have hq1 := ix_eq u W1 (by clear a2 b2' c2 hq2 hx2; omega)
      obtain ⟨a1, b1, c1⟩ := ix_in u W1 (by clear a2 b2' c2 hq2 hx2; omega)
      clear W1
      have HPN : Hid (∀ W, Calls Tryz.prog 155 #[.string (u.extract 0 (wrap64 ((u.size : Int) - 2)).toNat)] W fun e w' => e = .returned (.bool (plainB (u.extract 0 (u.size - 2)))) ∧ Drawn0 W w') := Lib.hid (fun W => by
        rw [hx2]
        exact plainB_calls (u.extract 0 (u.size - 2)) (by clear a2 b2' c2 hq2 hx2 a1 b1 c1 hq1; rw [ByteArray.size_extract]; omega) W)
      clear hu
      by_cases ha : u[u.size - 2]'z2 = 46
      · have q46 : (((u[(wrap64 ((u.size : Int) - 2)).toNat]'(b2')).toNat : Int) == 46) = true := by rw [hq2, ha]; rfl
        rw [ha] at hq0
        by_cases hb : u[u.size - 1]'z1 = 120 ∨ u[u.size - 1]'z1 = 88 ∨ u[u.size - 1]'z1 = 42
        · have hwc : wildC (u[u.size - 1]'z1) = true := by rcases hb with h | h | h <;> rw [h] <;> rfl
          rw [hwc] at hq0
          have hwq : ((((u[(wrap64 ((u.size : Int) - 1)).toNat]'(b1)).toNat : Int) == 120) = true) ∨ ((((u[(wrap64 ((u.size : Int) - 1)).toNat]'(b1)).toNat : Int) == 120) = false ∧ (((u[(wrap64 ((u.size : Int) - 1)).toNat]'(b1)).toNat : Int) == 88) = true) ∨ ((((u[(wrap64 ((u.size : Int) - 1)).toNat]'(b1)).toNat : Int) == 120) = false ∧ (((u[(wrap64 ((u.size : Int) - 1)).toNat]'(b1)).toNat : Int) == 88) = false ∧ (((u[(wrap64 ((u.size : Int) - 1)).toNat]'(b1)).toNat : Int) == 42) = true) := by
            rw [hq1]
            rcases hb with h | h | h <;> rw [h] <;> decide
          clear hq1 hq2 ha hb hwc
          cases hpb : plainB (u.extract 0 (u.size - 2)) with
          | true =>
            have hq : stripQ u = true := by rw [hq0, hpb]; rfl
            rw [hpb] at HPN
            have HS2 := Lib.hid ((congrArg stripA hx2).trans ((stripA_yes hq).symm.trans HS.out))
            have hz := (strip_size hq).1
            have hz2 : (u.extract 0 (wrap64 ((u.size : Int) - 2)).toNat).size + 2 = u.size := by rw [hx2]; exact hz
            have HU2 := Lib.hid (Nat.le_trans (Nat.le.intro hz2) HU.out)
            have HLT := Lib.hid (Nat.lt_of_lt_of_le (Nat.lt_add_of_pos_right (by decide : 0 < 2)) (Nat.le_of_eq hz2))
            clear hq hq0 hpb hz hz2 hx2
            rcases hwq with q120 | ⟨q120, q88⟩ | ⟨q120, q88, q42⟩
            all_goals
              go_wp2_with (go_at_call 155; ((with_reducible refine (HPN.out _).mono ?_); rintro e w' ⟨rfl, ⟨nq, rfl⟩⟩; replace HM := n_drew nq))
              exact ⟨⟨_, rfl, HS2, HU2, HM⟩, HLT.out⟩
          | false =>
            have hq : stripQ u = false := by rw [hq0, hpb]; rfl
            rw [hpb] at HPN
            have HQ := Lib.hid hq
            clear hq hq0 hpb hx2
            rcases hwq with q120 | ⟨q120, q88⟩ | ⟨q120, q88, q42⟩
            all_goals
              have HUU := Lib.hid (show u = stripA t by rw [← HS.out, stripA_no HQ.out])
              have HRD := Lib.hid (fun W hb => read_any u (by have := HU.out; omega) W (Vars.below (w := w) HV.out hb))
              go_wp2_with (first | (go_at_call 155; ((with_reducible refine (HPN.out _).mono ?_); rintro e w' ⟨rfl, ⟨nq, rfl⟩⟩; replace HM := n_drew nq)) | (go_at_call 143; ((with_reducible refine (HRD.out _ n_bel).mono ?_); intro e wd hre; unfold ReadEnd at hre; rw [HUU.out, HRV.out] at hre; (try dsimp only [SV.cells] at hre); obtain ⟨hb, rfl⟩ := hre; replace HM := n_call hb; clear hb)) | ((with_reducible refine id_store ?_); (refine n_st ?_; clear HM; intro wq HM)))
              refine bodyPost_ret (results_ctt rfl _ _ b2 197 ([.int .u64 va, .int .u64 vb, .int .u64 vc, .string vp, .string vm, .string vo] : List Value).toArray (0, 0) _ rfl (HM.out.has (b2, [.int .u64 va, .int .u64 vb, .int .u64 vc, .string vp, .string vm, .string vo], 197) n_mem) Tryz.underlying197 rfl (by kernel_rfl)) rfl ⟨HM.out.bel, by rw [HRV.out]; rfl⟩
        · have hwc : wildC (u[u.size - 1]'z1) = false := by
            cases hw : wildC (u[u.size - 1]'z1) with
            | false => rfl
            | true => exact absurd (by simpa [wildC] using hw) hb
          have key : ∀ k : UInt8, u[u.size - 1]'z1 ≠ k → (((u[(wrap64 ((u.size : Int) - 1)).toNat]'(b1)).toNat : Int) == ((k.toNat : Nat) : Int)) = false := by
            intro k hk
            rw [hq1]
            exact beq_eq_false_iff_ne.2 fun e => hk (UInt8.toNat_inj.1 (Int.ofNat.inj e))
          have q120 := key 120 (fun h => hb (Or.inl h))
          have q88 := key 88 (fun h => hb (Or.inr (Or.inl h)))
          have q42 := key 42 (fun h => hb (Or.inr (Or.inr h)))
          replace q120 : (((u[(wrap64 ((u.size : Int) - 1)).toNat]'(b1)).toNat : Int) == 120) = false := q120
          replace q88 : (((u[(wrap64 ((u.size : Int) - 1)).toNat]'(b1)).toNat : Int) == 88) = false := q88
          replace q42 : (((u[(wrap64 ((u.size : Int) - 1)).toNat]'(b1)).toNat : Int) == 42) = false := q42
          have hq : stripQ u = false := by rw [hq0, hwc]; rfl
          have HQ := Lib.hid hq
          clear hq hq0 hb hwc key hq1 hq2 ha hx2
          have HUU := Lib.hid (show u = stripA t by rw [← HS.out, stripA_no HQ.out])
          have HRD := Lib.hid (fun W hb => read_any u (by have := HU.out; omega) W (Vars.below (w := w) HV.out hb))
          go_wp2_with (first | (go_at_call 143; ((with_reducible refine (HRD.out _ n_bel).mono ?_); intro e wd hre; unfold ReadEnd at hre; rw [HUU.out, HRV.out] at hre; (try dsimp only [SV.cells] at hre); obtain ⟨hb, rfl⟩ := hre; replace HM := n_call hb; clear hb)) | ((with_reducible refine id_store ?_); (refine n_st ?_; clear HM; intro wq HM)))
          refine bodyPost_ret (results_ctt rfl _ _ b2 197 ([.int .u64 va, .int .u64 vb, .int .u64 vc, .string vp, .string vm, .string vo] : List Value).toArray (0, 0) _ rfl (HM.out.has (b2, [.int .u64 va, .int .u64 vb, .int .u64 vc, .string vp, .string vm, .string vo], 197) n_mem) Tryz.underlying197 rfl (by kernel_rfl)) rfl ⟨HM.out.bel, by rw [HRV.out]; rfl⟩
      · have hq : stripQ u = false := by
          have h46 : (u[u.size - 2]'z2 == (46 : UInt8)) = false := beq_eq_false_iff_ne.2 ha
          rw [hq0, h46]; rfl
        have q46 : (((u[(wrap64 ((u.size : Int) - 2)).toNat]'(b2')).toNat : Int) == 46) = false := by
          rw [hq2]
          exact beq_eq_false_iff_ne.2 fun e => ha (UInt8.toNat_inj.1 (Int.ofNat.inj e))
        have HQ := Lib.hid hq
        clear hq hq0 ha hq1 hq2 hx2
        have HUU := Lib.hid (show u = stripA t by rw [← HS.out, stripA_no HQ.out])
        have HRD := Lib.hid (fun W hb => read_any u (by have := HU.out; omega) W (Vars.below (w := w) HV.out hb))
        go_wp2_with (first | (go_at_call 143; ((with_reducible refine (HRD.out _ n_bel).mono ?_); intro e wd hre; unfold ReadEnd at hre; rw [HUU.out, HRV.out] at hre; (try dsimp only [SV.cells] at hre); obtain ⟨hb, rfl⟩ := hre; replace HM := n_call hb; clear hb)) | ((with_reducible refine id_store ?_); (refine n_st ?_; clear HM; intro wq HM)))
        refine bodyPost_ret (results_ctt rfl _ _ b2 197 ([.int .u64 va, .int .u64 vb, .int .u64 vc, .string vp, .string vm, .string vo] : List Value).toArray (0, 0) _ rfl (HM.out.has (b2, [.int .u64 va, .int .u64 vb, .int .u64 vc, .string vp, .string vm, .string vo], 197) n_mem) Tryz.underlying197 rfl (by kernel_rfl)) rfl ⟨HM.out.bel, by rw [HRV.out]; rfl⟩
    · have d2 : decide ((2 : Int) < (u.size : Int)) = false := decide_eq_false (by omega)
      have hq : stripQ u = false := by unfold stripQ; rw [dif_neg g2]
      have HQ := Lib.hid hq
      clear hq
      have HUU := Lib.hid (show u = stripA t by rw [← HS.out, stripA_no HQ.out])
      have HRD := Lib.hid (fun W hb => read_any u (by have := HU.out; omega) W (Vars.below (w := w) HV.out hb))
      go_wp2_with (first | (go_at_call 143; ((with_reducible refine (HRD.out _ n_bel).mono ?_); intro e wd hre; unfold ReadEnd at hre; rw [HUU.out, HRV.out] at hre; (try dsimp only [SV.cells] at hre); obtain ⟨hb, rfl⟩ := hre; replace HM := n_call hb; clear hb)) | ((with_reducible refine id_store ?_); (refine n_st ?_; clear HM; intro wq HM)))
      refine bodyPost_ret (results_ctt rfl _ _ b2 197 ([.int .u64 va, .int .u64 vb, .int .u64 vc, .string vp, .string vm, .string vo] : List Value).toArray (0, 0) _ rfl (HM.out.has (b2, [.int .u64 va, .int .u64 vb, .int .u64 vc, .string vp, .string vm, .string vo], 197) n_mem) Tryz.underlying197 rfl (by kernel_rfl)) rfl ⟨HM.out.bel, by rw [HRV.out]; rfl⟩
def PartEnd (s : ByteArray) (w : World) (e : Ending) (w' : World) : Prop :=
  Below w.heap.size w w' ∧ match partV s with
    | none => ∃ a, e = .returned (.tuple #[.agg zSV, .int .i64 0, .iface 260 (.pointer (some a))])
    | some (v, k) => e = .returned (.tuple #[.agg v.cells, .int .i64 (k : Int), .nilIface])
set_option maxRecDepth 20000 in
set_option maxHeartbeats 8000000 in
theorem part_empty (t : ByteArray) (h0 : t.toList = []) (w : World) : Calls Tryz.prog 150 #[.string t] w (PartEnd t w) := by
  have hp : partV t = none := by unfold partV; rw [if_pos h0]
  have HP := Lib.hid hp
  have e0 : t.toList.isEmpty = true := by rw [h0]; rfl
  have e1 : (t.toList == ([120] : List UInt8)) = false := by rw [h0]; rfl
  have e2 : (t.toList == ([88] : List UInt8)) = false := by rw [h0]; rfl
  have e3 : (t.toList == ([42] : List UInt8)) = false := by rw [h0]; rfl
  have HM := Aside0.mk (Blks.start w)
  clear h0 hp
  go_enter Tryz.func150, Tryz.ntmps150
  go_wp2_with (first | (go_at_call 144; ((with_reducible refine (new_any _ _).mono ?_); rintro e wn ⟨rfl, rfl⟩)) | ((with_reducible refine id_store ?_); (refine n_st ?_; clear HM; intro wq HM)) | ((with_reducible refine id_alloc ?_); (refine n_al ?_; clear HM; intro b2 wq HM)))
  refine bodyPost_ret (results_ctt rfl _ _ b2 197 ([.int .u64 0, .int .u64 0, .int .u64 0, .string ⟨#[]⟩, .string ⟨#[]⟩, .string ⟨#[]⟩] : List Value).toArray (0, 0) _ rfl (HM.out.has (b2, [.int .u64 0, .int .u64 0, .int .u64 0, .string ⟨#[]⟩, .string ⟨#[]⟩, .string ⟨#[]⟩], 197) n_mem) Tryz.underlying197 rfl (by kernel_rfl)) rfl ⟨HM.out.bel, by rw [HP.out]; exact ⟨_, rfl⟩⟩
set_option maxRecDepth 20000 in
set_option maxHeartbeats 8000000 in
theorem part_wild (t : ByteArray) (h0 : t.toList = [120] ∨ t.toList = [88] ∨ t.toList = [42]) (w : World) : Calls Tryz.prog 150 #[.string t] w (PartEnd t w) := by
  have hp : partV t = some (zVd, 0) := by unfold partV; rw [if_neg (by rcases h0 with h | h | h <;> rw [h] <;> simp), if_pos h0]
  have HP := Lib.hid hp
  have e0 : t.toList.isEmpty = false := by rcases h0 with h | h | h <;> rw [h] <;> rfl
  have hq : ((t.toList == ([120] : List UInt8)) = true) ∨ ((t.toList == ([120] : List UInt8)) = false ∧ (t.toList == ([88] : List UInt8)) = true) ∨ ((t.toList == ([120] : List UInt8)) = false ∧ (t.toList == ([88] : List UInt8)) = false ∧ (t.toList == ([42] : List UInt8)) = true) := by
    rcases h0 with h | h | h <;> rw [h] <;> decide
  have HM := Aside0.mk (Blks.start w)
  clear h0 hp
  rcases hq with e1 | ⟨e1, e2⟩ | ⟨e1, e2, e3⟩
  all_goals
    go_enter Tryz.func150, Tryz.ntmps150
    go_wp2_with (first | ((with_reducible refine id_store ?_); (refine n_st ?_; clear HM; intro wq HM)) | ((with_reducible refine id_alloc ?_); (refine n_al ?_; clear HM; intro b2 wq HM)))
    refine bodyPost_ret (results_ctt rfl _ _ b2 197 ([.int .u64 0, .int .u64 0, .int .u64 0, .string ⟨#[]⟩, .string ⟨#[]⟩, .string ⟨#[]⟩] : List Value).toArray (0, 0) _ rfl (HM.out.has (b2, [.int .u64 0, .int .u64 0, .int .u64 0, .string ⟨#[]⟩, .string ⟨#[]⟩, .string ⟨#[]⟩], 197) n_mem) Tryz.underlying197 rfl (by kernel_rfl)) rfl ⟨HM.out.bel, by rw [HP.out]; rfl⟩
theorem part_all (t : ByteArray) (ht : t.size ≤ 100000) (w : World) (hv : Vars w) : Calls Tryz.prog 150 #[.string t] w (PartEnd t w) := by
  by_cases h0 : t.toList = []
  · exact part_empty t h0 w
  · by_cases h1 : t.toList = [120] ∨ t.toList = [88] ∨ t.toList = [42]
    · exact part_wild t h1 w
    · have hp : partV t = readV (stripA t) := by unfold partV; rw [if_neg h0, if_neg h1]
      have key : ∀ {e : Ending} {w' : World}, ReadEnd (stripA t) w e w' → PartEnd t w e w' := by
        intro e w' h
        unfold PartEnd
        rw [hp]
        exact h
      cases hr : readV (stripA t) with
      | none => exact (part_none t ht h0 (fun h => h1 (Or.inl h)) (fun h => h1 (Or.inr (Or.inl h))) (fun h => h1 (Or.inr (Or.inr h))) hr w hv).mono fun e w' h => key h
      | some x =>
        obtain ⟨⟨va, vb, vc, vp, vm, vo⟩, ct⟩ := x
        exact (part_some t ht h0 (fun h => h1 (Or.inl h)) (fun h => h1 (Or.inr (Or.inl h))) (fun h => h1 (Or.inr (Or.inr h))) va vb vc vp vm vo ct hr w hv).mono fun e w' h => key h
end Go.Proofs.YtgoeiflddikihaaGreatDoor.Ver
end
