/- Merged by program out of: SemT. -/
import Derived.Test.YtgoeiflddikihaaGreatDoorCsgM3
import Derived.Test.YtgoeiflddikihaaGreatDoorCsgM31
import Derived.Test.YtgoeiflddikihaaGreatDoorCsgM6
import Derived.Test.YtgoeiflddikihaaGreatDoorCsgM13
import Derived.Test.YtgoeiflddikihaaGreatDoorCsgM10
section
namespace Go.Proofs.YtgoeiflddikihaaGreatDoor.Ver
set_option linter.unusedSimpArgs false
set_option linter.unusedVariables false
open Go.Sort Go.RowKit Go.Proofs.YtgoeiflddikihaaGreatDoor.Dig Go.Proofs.YtgoeiflddikihaaGreatDoorW.PrintWords Go.Proofs.YtgoeiflddikihaaGreatDoor.Mem Go.Proofs.YtgoeiflddikihaaGreatDoor.Ord Go.Proofs.YtgoeiflddikihaaGreatDoor.PFnVersion
theorem digit_str (n : Nat) (h : n < 10) : strOfNums ([(IntKind.u64.wrap (48 + (n : Int))) % 256] : List Int) = ⟨#[UInt8.ofNat (48 + n)]⟩ := by
  have e : IntKind.u64.wrap (48 + (n : Int)) = ((48 + n : Nat) : Int) := by rw [IntWalk.u64_in _ (by omega)]; omega
  rw [e]
  have e2 : (((48 + n : Nat) : Int) % 256) = ((48 + n : Nat) : Int) := by omega
  rw [e2]
  unfold strOfNums
  have e3 : (((48 + n : Nat) : Int)).toNat = 48 + n := by omega
  rw [List.map_cons, List.map_nil, e3]
theorem one_size (x : UInt8) : (⟨#[x]⟩ : ByteArray).size = 1 := rfl
theorem text_loop (n : Nat) : ∀ x : ByteArray, n < 18446744073709551616 → x.size + (Lib.decDigits n).length ≤ 1000 → ∃ k, spec_verText.l0 k (n : Int) x = some (⟨(Lib.decDigits n).toArray⟩ ++ x) := by
  induction n using Nat.strongRecOn with
  | _ n ih =>
    intro x hn hx
    by_cases h : n < 10
    · refine ⟨1, ?_⟩
      have hd : Lib.decDigits n = [UInt8.ofNat (48 + n)] := by rw [Lib.decDigits, dif_pos h]
      rw [hd] at hx ⊢
      have hx1 : x.size + 1 ≤ 1000 := hx
      rw [spec_verText.l0, if_neg (by omega), Option.bind_some, digit_str n h, if_pos (by rw [one_size]; omega)]
    · have hd : Lib.decDigits n = Lib.decDigits (n / 10) ++ [UInt8.ofNat (48 + n % 10)] := by rw [Lib.decDigits, dif_neg h]
      rw [hd, List.length_append, List.length_singleton] at hx
      obtain ⟨k, hk⟩ := ih (n / 10) (by omega) (⟨#[UInt8.ofNat (48 + n % 10)]⟩ ++ x) (by omega) (by rw [ByteArray.size_append, one_size]; omega)
      refine ⟨k + 1, ?_⟩
      have e1 : Int.tmod (n : Int) 10 = ((n % 10 : Nat) : Int) := rfl
      have e2 : IntKind.u64.wrap (Int.tdiv (n : Int) 10) = ((n / 10 : Nat) : Int) := by
        have : Int.tdiv (n : Int) 10 = ((n / 10 : Nat) : Int) := rfl
        rw [this, IntWalk.u64_in _ (by omega)]
      rw [spec_verText.l0, if_pos (by omega), Option.bind_some, e1, digit_str (n % 10) (by omega), if_pos (by rw [one_size]; omega), e2, hk, hd]
      congr 1
      apply ByteArray.ext
      simp
theorem text_any (n : Int) (h0 : 0 ≤ n) (h1 : n < 18446744073709551616) : ∃ k, spec_verText.f k n = some (decB n) := by
  have hs := decB_size n h0 h1
  have hs2 : (Lib.decDigits n.toNat).length ≤ 21 := by
    have : (decB n).size = (Lib.decDigits n.toNat).length := by show (Lib.decDigits n.toNat).toArray.size = _; simp
    omega
  obtain ⟨k, hk⟩ := text_loop n.toNat ⟨#[]⟩ (by omega) (by show 0 + _ ≤ _; omega)
  refine ⟨k, ?_⟩
  rw [spec_verText.f, show n = ((n.toNat : Nat) : Int) by omega, hk]
  have : ((n.toNat : Nat) : Int).toNat = n.toNat := by omega
  unfold decB
  rw [this]
  congr 1
  apply ByteArray.ext
  simp
def jt (pp : List ByteArray) : Nat → ByteArray
  | 0 => ⟨#[]⟩
  | k + 1 => jt pp k ++ ((if k = 0 then ⟨#[45]⟩ else ⟨#[46]⟩) ++ pp.getD k ⟨#[]⟩)
theorem jt_size (pp : List ByteArray) (h : ∀ p ∈ pp, p.size ≤ 1000000) : ∀ k, k ≤ pp.length → (jt pp k).size ≤ k * 1000001
  | 0, _ => Nat.le_refl _
  | k + 1, hk => by
    have ih := jt_size pp h k (by omega)
    have hg : pp.getD k ⟨#[]⟩ = pp[k] := by simp [List.getD_eq_getElem?_getD, List.getElem?_eq_getElem (show k < pp.length by omega)]
    have hp := h pp[k] (List.getElem_mem _)
    rw [jt, hg, ByteArray.size_append, ByteArray.size_append]
    have : (if k = 0 then (⟨#[45]⟩ : ByteArray) else ⟨#[46]⟩).size = 1 := by split <;> rfl
    omega
theorem jt_next (pp : List ByteArray) (k : Nat) (hk : k < pp.length) (t : ByteArray) : (t ++ jt pp k) ++ ((if k = 0 then ⟨#[45]⟩ else ⟨#[46]⟩) ++ pp[k]) = t ++ jt pp (k + 1) := by
  have hg : pp.getD k ⟨#[]⟩ = pp[k] := by simp [List.getD_eq_getElem?_getD, List.getElem?_eq_getElem hk]
  rw [jt, hg, ByteArray.append_assoc]
def semT (x0 x1 x2 : Int) (pp : List ByteArray) (mt : ByteArray) : ByteArray :=
  let t := decB x0 ++ ⟨#[46]⟩ ++ decB x1 ++ ⟨#[46]⟩ ++ decB x2 ++ jt pp pp.length
  if mt = ⟨#[]⟩ then t else t ++ (⟨#[43]⟩ ++ mt)
set_option maxRecDepth 20000 in
set_option maxHeartbeats 8000000 in
theorem semtext_main (x0 x1 x2 cnt : Int) (a0 : 0 ≤ x0 ∧ x0 < 18446744073709551616) (b0 : 0 ≤ x1 ∧ x1 < 18446744073709551616) (c0 : 0 ≤ x2 ∧ x2 < 18446744073709551616) (mt : ByteArray) (hm : mt.size ≤ 4294967296) (P : Value) (pp : List ByteArray) (hp : ∀ p ∈ pp, p.size ≤ 1000000) (hl : pp.length ≤ 1000000) (w : World) (base : Nat) (hP : StrsAt 9 w base P pp) :
    Calls Tryz.prog 81 #[.agg #[.int .u64 x0, .int .u64 x1, .int .u64 x2, .int .i64 cnt, P, .string mt]] w fun e w' => e = .returned (.string (semT x0 x1 x2 pp mt)) ∧ Below w.heap.size w w' := by
  have HM := Aside0.mk (Blks.start w)
  obtain ⟨A, cap, rfl⟩ := hP.val
  obtain ⟨r, hr⟩ : ∃ r, r = semT x0 x1 x2 pp mt := ⟨_, rfl⟩
  rw [← hr]
  have HR := Lib.hid hr
  clear hr
  obtain ⟨ka, hka⟩ := text_any x0 a0.1 a0.2
  obtain ⟨kb, hkb⟩ := text_any x1 b0.1 b0.2
  obtain ⟨kc, hkc⟩ := text_any x2 c0.1 c0.2
  have la := decB_size x0 a0.1 a0.2
  have lb := decB_size x1 b0.1 b0.2
  have lc := decB_size x2 c0.1 c0.2
  have CA0 := Lib.hid (fun W d os => Calls.regrown_of (spec_verText.calls ka x0 _ (grow (redrawn W d) os) hka))
  have CB0 := Lib.hid (fun W d os => Calls.regrown_of (spec_verText.calls kb x1 _ (grow (redrawn W d) os) hkb))
  have CC0 := Lib.hid (fun W d os => Calls.regrown_of (spec_verText.calls kc x2 _ (grow (redrawn W d) os) hkc))
  have HCP := Lib.hid (fun (hne : pp ≠ []) => hP.get hne)
  have HJ := Lib.hid (fun k (hk : k ≤ pp.length) => jt_size pp hp k hk)
  have HPS := Lib.hid hp
  clear hka hkb hkc a0 b0 c0 hP hp
  have hs2 : semT x0 x1 x2 pp mt = (if mt = ⟨#[]⟩ then decB x0 ++ ⟨#[46]⟩ ++ decB x1 ++ ⟨#[46]⟩ ++ decB x2 ++ jt pp pp.length else decB x0 ++ ⟨#[46]⟩ ++ decB x1 ++ ⟨#[46]⟩ ++ decB x2 ++ jt pp pp.length ++ (⟨#[43]⟩ ++ mt)) := rfl
  have HRR := Lib.hid (HR.out.trans hs2)
  clear hs2 HR
  generalize decB x0 = sa at *
  generalize decB x1 = sb at *
  generalize decB x2 = sc at *
  go_enter Tryz.func81, Tryz.ntmps81
  go_upto_region 1 with ((refine m_box n_own (h := ?_); intro ba wb HN; clear HM; have HM := HN; clear HN))
  have CA := Lib.hid (CA0.out wb)
  have CB := Lib.hid (CB0.out wb)
  have CC := Lib.hid (CC0.out wb)
  clear CA0 CB0 CC0
  have n1 : ¬ 9223372036854775807 < sa.size + 1 := by omega
  have n2 : ¬ 9223372036854775807 < sa.size + 1 + sb.size := by omega
  have n3 : ¬ 9223372036854775807 < sa.size + 1 + sb.size + 1 := by omega
  have n4 : ¬ 9223372036854775807 < sa.size + 1 + sb.size + 1 + sc.size := by omega
  have f0 := fun d os => cell_regrown (n_cell (b := ba) (o := 0)) d os
  have f1 := fun d os => cell_regrown (n_cell (b := ba) (o := 1)) d os
  have f2 := fun d os => cell_regrown (n_cell (b := ba) (o := 2)) d os
  refine wp_region_quiet_below (by kernel_rfl) (by kernel_rfl) ?_
  repeat (go_big_quiet_step (first | (with_reducible exact CA.out _ _) | (with_reducible exact CB.out _ _) | (with_reducible exact CC.out _ _)))
  refine wpQuiet_nil ?_
  intro _ hw'
  obtain ⟨⟨dq, osq⟩, hw''⟩ := hw'
  subst hw''
  have HN := Aside0.mk (Blks.call HM.out (below_regrown _ dq osq)); clear HM; have HM := HN; clear HN
  clear f0 f1 f2
  clear CA CB CC
  generalize grow (redrawn _ dq) osq = wz at *
  have hsum : (sa ++ ⟨#[46]⟩ ++ sb ++ ⟨#[46]⟩ ++ sc).size ≤ 100 := by simp only [ByteArray.size_append]; have : (⟨#[46]⟩ : ByteArray).size = 1 := rfl; omega
  clear n1 n2 n3 n4
  generalize sa ++ ⟨#[46]⟩ ++ sb ++ ⟨#[46]⟩ ++ sc = t3 at *
  clear la lb lc
  obtain ⟨n, hN⟩ : ∃ n, pp.length = n := ⟨_, rfl⟩
  have HN0 := Lib.hid hN
  rw [hN] at HM hl
  clear hN
  go_upto_region 2 with (fail)
  have kP := n_cell (b := ba) (o := 4)
  go_wp2_with fail
  clear kP
  go_loopw [3, 25] (fun v3 v25 wr => ∃ (k : Nat) (t : ByteArray), v25 = .int .i64 k ∧ k ≤ n ∧ v3 = .string t ∧ Hid (t = t3 ++ jt pp k) ∧ Hid (t.size ≤ 100 + k * 1000001) ∧ Aside0 (Blks w wr [(ba, [.int .u64 x0, .int .u64 x1, .int .u64 x2, .int .i64 cnt, .slice A n cap, .string mt], 50)])) (fun _ v25 _ => n - (intOf v25).toNat)
  case atStart => exact ⟨0, t3, rfl, Nat.zero_le _, rfl, Lib.hid (by rw [jt]; apply ByteArray.ext; simp), Lib.hid (by omega), HM⟩
  case round =>
    clear HM
    obtain ⟨k, t, rfl, hk, rfl, HT, HTS, HM⟩ := hrel
    by_cases hlt : k < n
    · have d1 : decide (k < n) = true := decide_eq_true hlt
      have hlp : k < pp.length := by rw [HN0.out]; exact hlt
      obtain ⟨g, cp, eg, _, hgl, hcell⟩ := HCP.out (by intro e; rw [e] at hlp; simp at hlp)
      obtain ⟨rfl, rfl⟩ : A = some ⟨g, 0, none⟩ ∧ cap = cp := by injection eg with h1 h2 h3; exact ⟨h1, h3⟩
      have cA : wr.cell? ⟨g, k, none⟩ = some (.string pp[k]) := (HM.out.bel.cell (p := ⟨g, k, none⟩) hgl).trans (hcell k hlp)
      have HNX := Lib.hid (HT.out ▸ jt_next pp k hlp t3)
      have hps : pp[k].size ≤ 1000000 := HPS.out _ (List.getElem_mem hlp)
      clear eg hcell hgl HT
      generalize pp[k] = p at *
      clear hlp
      have hts := HTS.out
      have one45 : (⟨#[45]⟩ : ByteArray).size = 1 := rfl
      have one46 : (⟨#[46]⟩ : ByteArray).size = 1 := rfl
      have m1 : ¬ 9223372036854775807 < 1 + p.size := by omega
      have hkm : k * 1000001 ≤ 1000000 * 1000001 := Nat.mul_le_mul_right _ (by omega)
      have m2 : ¬ 9223372036854775807 < t.size + (1 + p.size) := by omega
      have hnew : ∀ c : UInt8, (t ++ (⟨#[c]⟩ ++ p)).size ≤ 100 + (k + 1) * 1000001 := fun c => by
        have : (⟨#[c]⟩ : ByteArray).size = 1 := rfl
        rw [ByteArray.size_append, ByteArray.size_append]; omega
      have HNEW := Lib.hid hnew
      clear hnew hts hkm
      by_cases hz : k = 0
      · have e0 : ((k : Int) == 0) = true := by subst hz; rfl
        have e00 : (k == 0) = true := by subst hz; rfl
        have HX := Lib.hid (HNX.out.symm.trans (by rw [if_pos hz])) 
        clear HNX hz
        go_wp2_with fail
        go_roundw
        case rel => exact ⟨k + 1, _, by go_num, by omega, rfl, Lib.hid HX.out.symm, Lib.hid (HNEW.out 45), HM⟩
        case measure => simp [intOf]; omega
      · have e0 : ((k : Int) == 0) = false := beq_eq_false_iff_ne.2 (by omega)
        have e00 : (k == 0) = false := beq_eq_false_iff_ne.2 hz
        have HX := Lib.hid (HNX.out.symm.trans (by rw [if_neg hz]))
        clear HNX hz
        go_wp2_with fail
        go_roundw
        case rel => exact ⟨k + 1, _, by go_num, by omega, rfl, Lib.hid HX.out.symm, Lib.hid (HNEW.out 46), HM⟩
        case measure => simp [intOf]; omega
    · have d1 : decide (k < n) = false := decide_eq_false hlt
      obtain rfl : k = n := by omega
      have hr := HRR.out
      rw [HN0.out, ← HT.out] at hr
      clear hlt hk HT HCP HJ HPS HN0 HRR
      have hts := HTS.out
      clear HTS
      have hkm : k * 1000001 ≤ 1000000 * 1000001 := Nat.mul_le_mul_right _ hl
      have kM := n_cell (b := ba) (o := 5)
      have one43 : (⟨#[43]⟩ : ByteArray).size = 1 := rfl
      have m1 : ¬ 9223372036854775807 < 1 + mt.size := by omega
      have m2 : ¬ 9223372036854775807 < t.size + (1 + mt.size) := by omega
      clear hts hkm
      by_cases hm0 : mt = ⟨#[]⟩
      · have e2 : mt.toList.isEmpty = true := isEmpty_true (by rw [hm0]; rfl)
        rw [if_pos hm0] at hr
        subst hr
        clear hm0
        go_wp2_with fail
        go_ret
        exact ⟨rfl, HM.out.bel⟩
      · have e2 : mt.toList.isEmpty = false := isEmpty_false (size_pos hm0)
        rw [if_neg hm0] at hr
        subst hr
        clear hm0
        go_wp2_with fail
        go_ret
        exact ⟨rfl, HM.out.bel⟩
end Go.Proofs.YtgoeiflddikihaaGreatDoor.Ver
end
