/- Merged by program out of: SemT, AwakeE, SemL. -/
import Derived.Test.YtgoeiflddikihaaGreatDoorCvM32
import Derived.Test.YtgoeiflddikihaaGreatDoorCvM8
import Derived.Test.YtgoeiflddikihaaGreatDoorCvM17
import Derived.Test.YtgoeiflddikihaaGreatDoorCvM13
import Derived.Test.YtgoeiflddikihaaGreatDoorCvM24
import Derived.Test.YtgoeiflddikihaaGreatDoorCvM4
import Derived.Test.YtgoeiflddikihaaGreatDoorCvM31
import Derived.Test.YtgoeiflddikihaaGreatDoorCvM33
import Derived.Test.YtgoeiflddikihaaGreatDoorCvM29
import Derived.Deep.Cut
import Derived.Deep.CutRange
section
namespace Go.Proofs.YtgoeiflddikihaaGreatDoor.Ver
set_option linter.unusedSimpArgs false
set_option linter.unusedVariables false
open Go.Sort Go.RowKit Go.Proofs.YtgoeiflddikihaaGreatDoor.Dig Go.Proofs.YtgoeiflddikihaaGreatDoorW.PrintWords Go.Proofs.YtgoeiflddikihaaGreatDoor.Mem Go.Proofs.YtgoeiflddikihaaGreatDoor.Ord Go.Proofs.YtgoeiflddikihaaGreatDoor.PFnVersion
theorem digit_str (n : Nat) (h : n < 10) : strOfNums ([(IntKind.u64.wrap (48 + (n : Int))) % 256] : List Int) = ⟨#[UInt8.ofNat (48 + n)]⟩ := by
  have e : IntKind.u64.wrap (48 + (n : Int)) = ((48 + n : Nat) : Int) := by rw [IntWalk.u64_in _ (by omega)]; omega
  rw [e]
  have e2 : (((48 + n : Nat) : Int) % 256) = ((48 + n : Nat) : Int) := by omega
  rw [e2]
  unfold strOfNums
  have e3 : (((48 + n : Nat) : Int)).toNat = 48 + n := by omega
  rw [List.map_cons, List.map_nil, e3]
theorem one_size (x : UInt8) : (⟨#[x]⟩ : ByteArray).size = 1 := rfl
theorem text_loop (n : Nat) : ∀ x : ByteArray, n < 18446744073709551616 → x.size + (Lib.decDigits n).length ≤ 1000 → ∃ k, spec_verText.l0 k (n : Int) x = some (⟨(Lib.decDigits n).toArray⟩ ++ x) := by
  induction n using Nat.strongRecOn with
  | _ n ih =>
    intro x hn hx
    by_cases h : n < 10
    · refine ⟨1, ?_⟩
      have hd : Lib.decDigits n = [UInt8.ofNat (48 + n)] := by rw [Lib.decDigits, dif_pos h]
      rw [hd] at hx ⊢
      have hx1 : x.size + 1 ≤ 1000 := hx
      rw [spec_verText.l0, if_neg (by omega), Option.bind_some, digit_str n h, if_pos (by rw [one_size]; omega)]
    · have hd : Lib.decDigits n = Lib.decDigits (n / 10) ++ [UInt8.ofNat (48 + n % 10)] := by rw [Lib.decDigits, dif_neg h]
      rw [hd, List.length_append, List.length_singleton] at hx
      obtain ⟨k, hk⟩ := ih (n / 10) (by omega) (⟨#[UInt8.ofNat (48 + n % 10)]⟩ ++ x) (by omega) (by rw [ByteArray.size_append, one_size]; omega)
      refine ⟨k + 1, ?_⟩
      have e1 : Int.tmod (n : Int) 10 = ((n % 10 : Nat) : Int) := rfl
      have e2 : IntKind.u64.wrap (Int.tdiv (n : Int) 10) = ((n / 10 : Nat) : Int) := by
        have : Int.tdiv (n : Int) 10 = ((n / 10 : Nat) : Int) := rfl
        rw [this, IntWalk.u64_in _ (by omega)]
      rw [spec_verText.l0, if_pos (by omega), Option.bind_some, e1, digit_str (n % 10) (by omega), if_pos (by rw [one_size]; omega), e2, hk, hd]
      congr 1
      apply ByteArray.ext
      simp
theorem text_any (n : Int) (h0 : 0 ≤ n) (h1 : n < 18446744073709551616) : ∃ k, spec_verText.f k n = some (decB n) := by
  have hs := decB_size n h0 h1
  have hs2 : (Lib.decDigits n.toNat).length ≤ 21 := by
    have : (decB n).size = (Lib.decDigits n.toNat).length := by show (Lib.decDigits n.toNat).toArray.size = _; simp
    omega
  obtain ⟨k, hk⟩ := text_loop n.toNat ⟨#[]⟩ (by omega) (by show 0 + _ ≤ _; omega)
  refine ⟨k, ?_⟩
  rw [spec_verText.f, show n = ((n.toNat : Nat) : Int) by omega, hk]
  have : ((n.toNat : Nat) : Int).toNat = n.toNat := by omega
  unfold decB
  rw [this]
  congr 1
  apply ByteArray.ext
  simp
def jt (pp : List ByteArray) : Nat → ByteArray
  | 0 => ⟨#[]⟩
  | k + 1 => jt pp k ++ ((if k = 0 then ⟨#[45]⟩ else ⟨#[46]⟩) ++ pp.getD k ⟨#[]⟩)
theorem jt_size (pp : List ByteArray) (h : ∀ p ∈ pp, p.size ≤ 1000000) : ∀ k, k ≤ pp.length → (jt pp k).size ≤ k * 1000001
  | 0, _ => Nat.le_refl _
  | k + 1, hk => by
    have ih := jt_size pp h k (by omega)
    have hg : pp.getD k ⟨#[]⟩ = pp[k] := by simp [List.getD_eq_getElem?_getD, List.getElem?_eq_getElem (show k < pp.length by omega)]
    have hp := h pp[k] (List.getElem_mem _)
    rw [jt, hg, ByteArray.size_append, ByteArray.size_append]
    have : (if k = 0 then (⟨#[45]⟩ : ByteArray) else ⟨#[46]⟩).size = 1 := by split <;> rfl
    omega
theorem jt_next (pp : List ByteArray) (k : Nat) (hk : k < pp.length) (t : ByteArray) : (t ++ jt pp k) ++ ((if k = 0 then ⟨#[45]⟩ else ⟨#[46]⟩) ++ pp[k]) = t ++ jt pp (k + 1) := by
  have hg : pp.getD k ⟨#[]⟩ = pp[k] := by simp [List.getD_eq_getElem?_getD, List.getElem?_eq_getElem hk]
  rw [jt, hg, ByteArray.append_assoc]
def semT (x0 x1 x2 : Int) (pp : List ByteArray) (mt : ByteArray) : ByteArray :=
  let t := decB x0 ++ ⟨#[46]⟩ ++ decB x1 ++ ⟨#[46]⟩ ++ decB x2 ++ jt pp pp.length
  if mt = ⟨#[]⟩ then t else t ++ (⟨#[43]⟩ ++ mt)
set_option maxRecDepth 20000 in
set_option maxHeartbeats 8000000 in
theorem semtext_main (x0 x1 x2 cnt : Int) (a0 : 0 ≤ x0 ∧ x0 < 18446744073709551616) (b0 : 0 ≤ x1 ∧ x1 < 18446744073709551616) (c0 : 0 ≤ x2 ∧ x2 < 18446744073709551616) (mt : ByteArray) (hm : mt.size ≤ 4294967296) (P : Value) (pp : List ByteArray) (hp : ∀ p ∈ pp, p.size ≤ 1000000) (hl : pp.length ≤ 1000000) (w : World) (base : Nat) (hP : StrsAt 9 w base P pp) :
    Calls Tryz.prog 81 #[.agg #[.int .u64 x0, .int .u64 x1, .int .u64 x2, .int .i64 cnt, P, .string mt]] w fun e w' => e = .returned (.string (semT x0 x1 x2 pp mt)) ∧ Below w.heap.size w w' := by
  have HM := Aside0.mk (Blks.start w)
  obtain ⟨A, cap, rfl⟩ := hP.val
  obtain ⟨r, hr⟩ : ∃ r, r = semT x0 x1 x2 pp mt := ⟨_, rfl⟩
  rw [← hr]
  have HR := Lib.hid hr
  clear hr
  obtain ⟨ka, hka⟩ := text_any x0 a0.1 a0.2
  obtain ⟨kb, hkb⟩ := text_any x1 b0.1 b0.2
  obtain ⟨kc, hkc⟩ := text_any x2 c0.1 c0.2
  have la := decB_size x0 a0.1 a0.2
  have lb := decB_size x1 b0.1 b0.2
  have lc := decB_size x2 c0.1 c0.2
  have CA0 := Lib.hid (fun W d os => Calls.regrown_of (spec_verText.calls ka x0 _ (grow (redrawn W d) os) hka))
  have CB0 := Lib.hid (fun W d os => Calls.regrown_of (spec_verText.calls kb x1 _ (grow (redrawn W d) os) hkb))
  have CC0 := Lib.hid (fun W d os => Calls.regrown_of (spec_verText.calls kc x2 _ (grow (redrawn W d) os) hkc))
  have HCP := Lib.hid (fun (hne : pp ≠ []) => hP.get hne)
  have HJ := Lib.hid (fun k (hk : k ≤ pp.length) => jt_size pp hp k hk)
  have HPS := Lib.hid hp
  clear hka hkb hkc a0 b0 c0 hP hp
  have hs2 : semT x0 x1 x2 pp mt = (if mt = ⟨#[]⟩ then decB x0 ++ ⟨#[46]⟩ ++ decB x1 ++ ⟨#[46]⟩ ++ decB x2 ++ jt pp pp.length else decB x0 ++ ⟨#[46]⟩ ++ decB x1 ++ ⟨#[46]⟩ ++ decB x2 ++ jt pp pp.length ++ (⟨#[43]⟩ ++ mt)) := rfl
  have HRR := Lib.hid (HR.out.trans hs2)
  clear hs2 HR
  generalize decB x0 = sa at *
  generalize decB x1 = sb at *
  generalize decB x2 = sc at *
  go_enter Tryz.func81, Tryz.ntmps81
  go_upto_region 1 with ((refine m_box (by repeat (first | exact HM.out | apply Blks.drewN | apply Blks.drew | apply Blks.other)) (h := ?_); intro ba wb HN; clear HM; have HM := HN; clear HN))
  have CA := Lib.hid (CA0.out wb)
  have CB := Lib.hid (CB0.out wb)
  have CC := Lib.hid (CC0.out wb)
  clear CA0 CB0 CC0
  have n1 : ¬ 9223372036854775807 < sa.size + 1 := by omega
  have n2 : ¬ 9223372036854775807 < sa.size + 1 + sb.size := by omega
  have n3 : ¬ 9223372036854775807 < sa.size + 1 + sb.size + 1 := by omega
  have n4 : ¬ 9223372036854775807 < sa.size + 1 + sb.size + 1 + sc.size := by omega
  have f0 := fun d os => cell_regrown (Blks.cell HM.out (b := ba) (o := 0) (by repeat (first | exact List.Mem.head _ | apply List.Mem.tail)) (by repeat (first | exact Rd.nil | apply Rd.here | apply Rd.skip))) d os
  have f1 := fun d os => cell_regrown (Blks.cell HM.out (b := ba) (o := 1) (by repeat (first | exact List.Mem.head _ | apply List.Mem.tail)) (by repeat (first | exact Rd.nil | apply Rd.here | apply Rd.skip))) d os
  have f2 := fun d os => cell_regrown (Blks.cell HM.out (b := ba) (o := 2) (by repeat (first | exact List.Mem.head _ | apply List.Mem.tail)) (by repeat (first | exact Rd.nil | apply Rd.here | apply Rd.skip))) d os
  refine wp_region_quiet_below (by kernel_rfl) (by kernel_rfl) ?_
  repeat (go_big_quiet_step (first | (with_reducible exact CA.out _ _) | (with_reducible exact CB.out _ _) | (with_reducible exact CC.out _ _)))
  refine wpQuiet_nil ?_
  intro _ hw'
  obtain ⟨⟨dq, osq⟩, hw''⟩ := hw'
  subst hw''
  have HN := Aside0.mk (Blks.call HM.out (below_regrown _ dq osq)); clear HM; have HM := HN; clear HN
  clear f0 f1 f2
  clear CA CB CC
  generalize grow (redrawn _ dq) osq = wz at *
  have hsum : (sa ++ ⟨#[46]⟩ ++ sb ++ ⟨#[46]⟩ ++ sc).size ≤ 100 := by simp only [ByteArray.size_append]; have : (⟨#[46]⟩ : ByteArray).size = 1 := rfl; omega
  clear n1 n2 n3 n4
  generalize sa ++ ⟨#[46]⟩ ++ sb ++ ⟨#[46]⟩ ++ sc = t3 at *
  clear la lb lc
  obtain ⟨n, hN⟩ : ∃ n, pp.length = n := ⟨_, rfl⟩
  have HN0 := Lib.hid hN
  rw [hN] at HM hl
  clear hN
  go_upto_region 2 with (fail)
  have kP := Blks.cell HM.out (b := ba) (o := 4) (by repeat (first | exact List.Mem.head _ | apply List.Mem.tail)) (by repeat (first | exact Rd.nil | apply Rd.here | apply Rd.skip))
  go_wp2_with fail
  clear kP
  go_loopw [3, 25] (fun v3 v25 wr => ∃ (k : Nat) (t : ByteArray), v25 = .int .i64 k ∧ k ≤ n ∧ v3 = .string t ∧ Hid (t = t3 ++ jt pp k) ∧ Hid (t.size ≤ 100 + k * 1000001) ∧ Aside0 (Blks w wr [(ba, [.int .u64 x0, .int .u64 x1, .int .u64 x2, .int .i64 cnt, .slice A n cap, .string mt], 50)])) (fun _ v25 _ => n - (intOf v25).toNat)
  case atStart => exact ⟨0, t3, rfl, Nat.zero_le _, rfl, Lib.hid (by rw [jt]; apply ByteArray.ext; simp), Lib.hid (by omega), HM⟩
  case round =>
    clear HM
    obtain ⟨k, t, rfl, hk, rfl, HT, HTS, HM⟩ := hrel
    by_cases hlt : k < n
    · have d1 : decide (k < n) = true := decide_eq_true hlt
      have hlp : k < pp.length := by rw [HN0.out]; exact hlt
      obtain ⟨g, cp, eg, _, hgl, hcell⟩ := HCP.out (by intro e; rw [e] at hlp; simp at hlp)
      obtain ⟨rfl, rfl⟩ : A = some ⟨g, 0, none⟩ ∧ cap = cp := by injection eg with h1 h2 h3; exact ⟨h1, h3⟩
      have cA : wr.cell? ⟨g, k, none⟩ = some (.string pp[k]) := (HM.out.bel.cell (p := ⟨g, k, none⟩) hgl).trans (hcell k hlp)
      have HNX := Lib.hid (HT.out ▸ jt_next pp k hlp t3)
      have hps : pp[k].size ≤ 1000000 := HPS.out _ (List.getElem_mem hlp)
      clear eg hcell hgl HT
      generalize pp[k] = p at *
      clear hlp
      have hts := HTS.out
      have one45 : (⟨#[45]⟩ : ByteArray).size = 1 := rfl
      have one46 : (⟨#[46]⟩ : ByteArray).size = 1 := rfl
      have m1 : ¬ 9223372036854775807 < 1 + p.size := by omega
      have hkm : k * 1000001 ≤ 1000000 * 1000001 := Nat.mul_le_mul_right _ (by omega)
      have m2 : ¬ 9223372036854775807 < t.size + (1 + p.size) := by omega
      have hnew : ∀ c : UInt8, (t ++ (⟨#[c]⟩ ++ p)).size ≤ 100 + (k + 1) * 1000001 := fun c => by
        have : (⟨#[c]⟩ : ByteArray).size = 1 := rfl
        rw [ByteArray.size_append, ByteArray.size_append]; omega
      have HNEW := Lib.hid hnew
      clear hnew hts hkm
      by_cases hz : k = 0
      · have e0 : ((k : Int) == 0) = true := by subst hz; rfl
        have e00 : (k == 0) = true := by subst hz; rfl
        have HX := Lib.hid (HNX.out.symm.trans (by rw [if_pos hz])) 
        clear HNX hz
        go_wp2_with fail
        go_roundw
        case rel => exact ⟨k + 1, _, by go_num, by omega, rfl, Lib.hid HX.out.symm, Lib.hid (HNEW.out 45), HM⟩
        case measure => simp [intOf]; omega
      · have e0 : ((k : Int) == 0) = false := beq_eq_false_iff_ne.2 (by omega)
        have e00 : (k == 0) = false := beq_eq_false_iff_ne.2 hz
        have HX := Lib.hid (HNX.out.symm.trans (by rw [if_neg hz]))
        clear HNX hz
        go_wp2_with fail
        go_roundw
        case rel => exact ⟨k + 1, _, by go_num, by omega, rfl, Lib.hid HX.out.symm, Lib.hid (HNEW.out 46), HM⟩
        case measure => simp [intOf]; omega
    · have d1 : decide (k < n) = false := decide_eq_false hlt
      obtain rfl : k = n := by omega
      have hr := HRR.out
      rw [HN0.out, ← HT.out] at hr
      clear hlt hk HT HCP HJ HPS HN0 HRR
      have hts := HTS.out
      clear HTS
      have hkm : k * 1000001 ≤ 1000000 * 1000001 := Nat.mul_le_mul_right _ hl
      have kM := Blks.cell HM.out (b := ba) (o := 5) (by repeat (first | exact List.Mem.head _ | apply List.Mem.tail)) (by repeat (first | exact Rd.nil | apply Rd.here | apply Rd.skip))
      have one43 : (⟨#[43]⟩ : ByteArray).size = 1 := rfl
      have m1 : ¬ 9223372036854775807 < 1 + mt.size := by omega
      have m2 : ¬ 9223372036854775807 < t.size + (1 + mt.size) := by omega
      clear hts hkm
      by_cases hm0 : mt = ⟨#[]⟩
      · have e2 : mt.toList.isEmpty = true := isEmpty_true (by rw [hm0]; rfl)
        rw [if_pos hm0] at hr
        subst hr
        clear hm0
        go_wp2_with fail
        go_ret
        exact ⟨rfl, HM.out.bel⟩
      · have e2 : mt.toList.isEmpty = false := isEmpty_false (size_pos hm0)
        rw [if_neg hm0] at hr
        subst hr
        clear hm0
        go_wp2_with fail
        go_ret
        exact ⟨rfl, HM.out.bel⟩
end Go.Proofs.YtgoeiflddikihaaGreatDoor.Ver
end
section
namespace Go.Proofs.YtgoeiflddikihaaGreatDoor.Ver
set_option linter.unusedSimpArgs false
open Go.RowKit Go.Proofs.YtgoeiflddikihaaGreatDoor.Dig Go.Proofs.YtgoeiflddikihaaGreatDoorW.PrintWords Go.Proofs.YtgoeiflddikihaaGreatDoor.Mem Go.Sort Go.Proofs.YtgoeiflddikihaaGreatDoor.Srt
theorem rowTold : RowT Tryz.prog 54 9 := ⟨⟨_, Tryz.underlying54, rfl⟩, by kernel_rfl⟩
theorem zeroTold : (Tryz.prog.info? 54).bind (fun i => i.zero.map (·.cells)) = some zTold := by kernel_rfl
abbrev t123 : ByteArray := ⟨#[118, 49, 46, 50, 46, 51]⟩
abbrev tr : ByteArray := ⟨#[114]⟩
abbrev tdev : ByteArray := ⟨#[100, 101, 118]⟩
abbrev t100 : ByteArray := ⟨#[49, 46, 48, 46, 48]⟩
abbrev t110 : ByteArray := ⟨#[49, 46, 49, 46, 48]⟩
def v123 : SV := ⟨1, 2, 3, ⟨#[]⟩, ⟨#[]⟩, t123⟩
theorem read123 : readV t123 = some (v123, 3) := by kernel_rfl
theorem of123 (w : World) (hv : Vars w) : Calls Tryz.prog 35 #[.agg #[.int .i64 3, .string t123, .string tr]] w fun e w' => e = .returned (told 2 t123 (⟨#[61]⟩ ++ semB v123) tr ⟨#[]⟩ t123 tr t123 true) ∧ Below w.heap.size w w' :=
  of_psem 3 t123 tr (by decide) w hv v123 (readV_ok' (by decide) read123).1 (by decide) (by rw [show (semB v123).size = 5 by kernel_rfl]; omega) tr (by kernel_rfl)
def x0 : VD := ⟨1, tdev, ⟨#[]⟩, by decide⟩
def x1 : VD := ⟨3, t100, ⟨#[]⟩, by decide⟩
def x2 : VD := ⟨3, t110, ⟨#[]⟩, by decide⟩
abbrev In3 : Array Value := #[.int .i64 1, .string tdev, .string ⟨#[]⟩, .int .i64 3, .string t100, .string ⟨#[]⟩, .int .i64 3, .string t110, .string ⟨#[]⟩]
def Out3 : List Value := [.int .i64 3, .string t110, .string ⟨#[]⟩, .int .i64 3, .string t100, .string ⟨#[]⟩, .int .i64 1, .string tdev, .string ⟨#[]⟩]
theorem bs_v3 : Tryz.prog.builtSlice 27 3 [(0, .agg #[.int .i64 1, .string tdev, .string ⟨#[]⟩]), (1, .agg #[.int .i64 3, .string t100, .string ⟨#[]⟩]), (2, .agg #[.int .i64 3, .string t110, .string ⟨#[]⟩])] = some In3 := by kernel_rfl
theorem at3 {w : World} {b : Nat} (h : w.rangeAt b 0 In3.toList) : AtV w (.slice (some ⟨b, 0, none⟩) 3 3) [x0, x1, x2] := by
  refine ⟨⟨some ⟨b, 0, none⟩, 3, rfl, fun _ => ⟨b, 0, rfl, fun i hi => ?_⟩⟩⟩
  have h3 : i < 3 := hi
  rcases i with _ | _ | _ | i
  · exact ⟨h 0 _ rfl, h 1 _ rfl, h 2 _ rfl⟩
  · exact ⟨h 3 _ rfl, h 4 _ rfl, h 5 _ rfl⟩
  · exact ⟨h 6 _ rfl, h 7 _ rfl, h 8 _ rfl⟩
  · omega
theorem lt21 : ltV false x2.ver x1.ver = true := by kernel_rfl
theorem lt20 : ltV false x2.ver x0.ver = true := by kernel_rfl
theorem lt10 : ltV false x1.ver x0.ver = true := by kernel_rfl
def Sort3End (w : World) (e : Ending) (w' : World) : Prop :=
  ∃ g cap cells rest, e = .returned (.slice (some ⟨g, 0, none⟩) 3 cap) ∧ w.heap.size ≤ g ∧ w'.heap[g]? = some (.cells cells 27 (0, 0)) ∧ cells.toList = Out3 ++ rest ∧ Below w.heap.size w w'
theorem sort3 (b : Nat) (w : World) (hv : Vars w) (h : w.rangeAt b 0 In3.toList) : Calls Tryz.prog 37 #[.slice (some ⟨b, 0, none⟩) 3 3, .bool false, .bool false] w (Sort3End w) := by
  refine (sorted_up [x0, x1, x2] ⟨by decide, by decide⟩ _ w hv (at3 h)).mono ?_
  rintro e w' ⟨x, d', rfl, hp, hs, ho, hb⟩
  have hd := Awk.three (swo_ltV false) lt21 lt20 lt10 hp hs
  subst hd
  obtain ⟨g, cap, cells, rest, rfl, hg, hc, hl, _⟩ := row_block ho (by show 0 < 3; omega)
  exact ⟨g, cap, cells, rest, rfl, hg, hc, hl, hb⟩
set_option maxRecDepth 20000 in
set_option maxHeartbeats 4000000 in
theorem awake (w : World) (hv : Vars w) : Calls Tryz.prog 25 #[] w fun e w' => e = .returned (.bool true) ∧ Below w.heap.size w w' := by
  have HO := Lib.hid (fun W hb => of123 W (Vars.below (w := w) hv hb))
  have HS := Lib.hid (fun b W hb h => sort3 b W (Vars.below (w := w) hv hb) h)
  have HT := Lib.hid (fun W hb => matches120 W (Vars.below (w := w) hv hb))
  have HM := Aside0.mk (Blks.start w)
  generalize (⟨#[61]⟩ : ByteArray) ++ semB v123 = cs at HO
  unfold told at HO
  clear hv
  go_enter Tryz.func25, Tryz.ntmps25
  go_wp2_with (first
    | (go_at_call 35; ((with_reducible refine (HO.out _ (Blks.bel (by repeat (first | exact HM.out | apply Blks.drewN | apply Blks.drew | apply Blks.other)))).mono ?_); rintro e w1 ⟨rfl, hb⟩; have HN := Aside0.mk (Blks.call (by repeat (first | exact HM.out | apply Blks.drewN | apply Blks.drew | apply Blks.other)) hb); clear HM hb; have HM := HN; clear HN))
    | (go_at_call 37; ((refine (HS.out _ _ (Blks.bel (by repeat (first | exact HM.out | apply Blks.drewN | apply Blks.drew | apply Blks.other))) (Blks.range HM.out (b := bq) (o := 0) (n := 9) (by repeat (first | exact List.Mem.head _ | apply List.Mem.tail)) (by repeat (first | exact Rd.nil | apply Rd.here | apply Rd.skip)))).mono ?_); rintro e w3 ⟨g3, cap3, cells3, rest3, rfl, hg, hc, hl, hb⟩; unfold Out3 at hl; have HN := Aside0.mk (Blks.add (by repeat (first | exact HM.out | apply Blks.drewN | apply Blks.drew | apply Blks.other)) hb hg hc hl); clear HM hb hg hc hl; have HM := HN; clear HN; refine Hid.out ?_))
    | (refine bk_load1 (by rfl) (by rfl) (by rfl) (by repeat (first | exact HM.out | apply Blks.drewN | apply Blks.drew | apply Blks.other)) (by repeat (first | exact List.Mem.head _ | apply List.Mem.tail)) (by first | exact oneS | exact oneSl | exact oneB | exact oneI) (by repeat (first | exact Rd.nil | apply Rd.here | apply Rd.skip)) ?_) | (refine bk_load (by rfl) (by rfl) (by rfl) (by repeat (first | exact HM.out | apply Blks.drewN | apply Blks.drew | apply Blks.other)) (by repeat (first | exact List.Mem.head _ | apply List.Mem.tail)) (by first | exact rowV | exact rowP | exact rowR | exact rowC | exact rowIV | exact rowTold) (by repeat (first | exact Rd.nil | apply Rd.here | apply Rd.skip)) ?_) | (refine bk_alloc (by rfl) (by rfl) (by repeat (first | exact HM.out | apply Blks.drewN | apply Blks.drew | apply Blks.other)) (by first | exact zeroTold) ?_; intro bt _ HN; clear HM; have HM := Aside0.mk HN; clear HN) | (refine bk_store1 (by rfl) (by rfl) (by rfl) (by rfl) (by first | exact (rfl : _ = Value.bool _) | exact (rfl : _ = Value.int _ _) | exact (rfl : _ = Value.string _) | exact (rfl : _ = Value.slice _ _ _) | exact (rfl : _ = Value.iface _ _) | exact (rfl : _ = Value.nilIface) | exact (rfl : _ = Value.pointer _)) (by repeat (first | exact HM.out | apply Blks.drewN | apply Blks.drew | apply Blks.other)) (by first | exact oneSl | exact oneB) (by rfl) (by repeat (first | exact List.Mem.head _ | apply List.Mem.tail)) (by repeat (first | exact Wr.nil | apply Wr.here | apply Wr.skip)) (by repeat (first | exact Up.here | apply Up.skip)) ?_; intro _ HN; clear HM; have HM := Aside0.mk HN; clear HN) | (refine bk_store (by rfl) (by rfl) (by rfl) (by rfl) (by rfl) (by repeat (first | exact HM.out | apply Blks.drewN | apply Blks.drew | apply Blks.other)) (by first | exact rowTold) (by rfl) (by simp [Value.oneCell']) (by repeat (first | exact List.Mem.head _ | apply List.Mem.tail)) (by repeat (first | exact Wr.nil | apply Wr.here | apply Wr.skip)) (by repeat (first | exact Up.here | apply Up.skip)) ?_; intro _ HN; clear HM; have HM := Aside0.mk HN; clear HN) | (refine bk_slice (by rfl) (by rfl) (by repeat (first | exact HM.out | apply Blks.drewN | apply Blks.drew | apply Blks.other)) Tryz.underlying23 (by rw [Array.toList_map]; exact bs_v3) ?_; intro bq _ HN; clear HM; have HM := Aside0.mk HN; clear HN))
  have r8 := HM.out.range (b := bt) (o := 8) (n := 1) (by repeat (first | exact List.Mem.head _ | apply List.Mem.tail)) (by repeat (first | exact Rd.nil | apply Rd.here | apply Rd.skip)) 0 _ rfl
  have r0 := HM.out.range (b := bt) (o := 0) (n := 1) (by repeat (first | exact List.Mem.head _ | apply List.Mem.tail)) (by repeat (first | exact Rd.nil | apply Rd.here | apply Rd.skip)) 0 _ rfl
  have r1 := HM.out.range (b := bt) (o := 1) (n := 1) (by repeat (first | exact List.Mem.head _ | apply List.Mem.tail)) (by repeat (first | exact Rd.nil | apply Rd.here | apply Rd.skip)) 0 _ rfl
  simp only [Nat.add_zero] at r8 r0 r1
  refine Lib.hid ?_
  go_wp2_with (first
    | (go_at_call 27; ((with_reducible refine (HT.out _ (Blks.bel (by repeat (first | exact HM.out | apply Blks.drewN | apply Blks.drew | apply Blks.other)))).mono ?_); rintro e w4 ⟨rfl, hb⟩; have HN := Aside0.mk (Blks.call (by repeat (first | exact HM.out | apply Blks.drewN | apply Blks.drew | apply Blks.other)) hb); clear HM hb; have HM := HN; clear HN; refine Hid.out ?_)))
  clear r8 r0 r1
  have r1 := HM.out.range (b := g3) (o := 1) (n := 1) (by repeat (first | exact List.Mem.head _ | apply List.Mem.tail)) (by repeat (first | exact Rd.nil | apply Rd.here | apply Rd.skip)) 0 _ rfl
  have r7 := HM.out.range (b := g3) (o := 7) (n := 1) (by repeat (first | exact List.Mem.head _ | apply List.Mem.tail)) (by repeat (first | exact Rd.nil | apply Rd.here | apply Rd.skip)) 0 _ rfl
  simp only [Nat.add_zero] at r1 r7
  refine Lib.hid ?_
  go_wp2_with fail
  go_ret
  exact ⟨rfl, HM.out.bel⟩
end Go.Proofs.YtgoeiflddikihaaGreatDoor.Ver
end
section
namespace Go.Proofs.YtgoeiflddikihaaGreatDoor.Ver
set_option linter.unusedSimpArgs false
set_option linter.unusedVariables false
open Go.RowKit Go.Proofs.YtgoeiflddikihaaGreatDoor.Dig Go.Proofs.YtgoeiflddikihaaGreatDoorW.PrintWords Go.Proofs.YtgoeiflddikihaaGreatDoor.Mem
theorem size_app (a b : ByteArray) : (a ++ b).size = a.size + b.size := ByteArray.size_append
theorem semB_size (v : SV) (hk : SVok v) : (semB v).size ≤ 10000000000 := by
  have h1 := decB_size _ hk.a0 hk.a1
  have h2 := decB_size _ hk.b0 hk.b1
  have h3 := decB_size _ hk.c0 hk.c1
  have h4 := hk.p
  have h5 := hk.m
  have e : ∀ b : UInt8, (⟨#[b]⟩ : ByteArray).size = 1 := fun _ => rfl
  unfold semB preB threeB
  split <;> split <;> simp only [size_app, e] <;> omega
theorem ver3 (t : ByteArray) : verV 3 t ⟨#[]⟩ = .un (newV t) := by
  unfold verV unpV
  rw [if_neg (by decide), if_neg (by decide), if_pos rfl]
  simp
theorem new_plain {t : ByteArray} (h : qSemB0 t.data.toList = none) : newV t = .plain t := by
  unfold newV; rw [readV_eq, qReadB, h]; rfl
end Go.Proofs.YtgoeiflddikihaaGreatDoor.Ver
end
