/- Merged by program out of: R1e. -/
import Derived.Test.YtgoeiflddikihaaGreatDoorCsgM3
import Derived.Test.YtgoeiflddikihaaGreatDoorCsgM38
section
namespace Go.Proofs.YtgoeiflddikihaaGreatDoor.Ver
set_option linter.unusedSimpArgs false
set_option linter.unusedVariables false
open Go.RowKit Go.Proofs.YtgoeiflddikihaaGreatDoor.Dig Go.Proofs.YtgoeiflddikihaaGreatDoorW.PrintWords Go.Proofs.YtgoeiflddikihaaGreatDoor.PFnIntersectAny Go.Proofs.YtgoeiflddikihaaGreatDoor.Ord Go.Proofs.YtgoeiflddikihaaGreatDoor.Mem
set_option maxRecDepth 20000 in
set_option maxHeartbeats 16000000 in
theorem r1_el (t u : ByteArray) (b : Bool) (nI : Int) (hn : nI = 0 ∨ nI = 1 ∨ nI = 2 ∨ nI = 3) (sv av : SV) (hsg : sgL t.data.toList = ([61, 60] : Bs)) (hu : u = mkT (unSgL t.data.toList)) (w : World)
    (hP : ∀ W, Below w.heap.size w W → Calls Tryz.prog 150 #[.string (trimD u)] W fun e w' => e = .returned (.tuple #[.agg sv.cells, .int .i64 nI, .nilIface]) ∧ Below W.heap.size W w')
    (hA : ∀ W, Calls Tryz.prog 151 #[.agg sv.cells, .int .i64 nI] W fun e w' => e = .returned (.agg av.cells) ∧ Below W.heap.size W w')
    (hts : t.size ≤ 100000) (r : Option CnD) (hr : (if nI = 0 then some (.rng [zPD]) else if nI = 3 then some (.rng [{ hiP sv with wh := true }]) else some (.rng [hiP av])) = r) : Calls Tryz.prog 141 #[.string t, .bool b] w (R1End r w) := by
  have HT := Lib.hid hts
  have HP := Lib.hid hP
  have HA := Lib.hid hA
  have HNN := Lib.hid hn
  have HR := Lib.hid hr
  have HSG := Lib.hid hsg
  have HU := Lib.hid hu
  have HUZ := Lib.hid (show u.size ≤ 1000000000000 by have h1 := unSgL_len t.data.toList; have h2 : t.data.toList.length = t.size := Array.length_toList; have h3 : u.size = (unSgL t.data.toList).length := (by rw [hu, mkT_size]); omega)
  have HTR := Lib.hid (fun W (h : u.size ≤ 1000000000000) => trimD_calls u h W)
  have HM := Aside0.mk (Blks.start w)
  clear hts hsg hu hP hA hn hr
  obtain ⟨va, vb, vc, vp, vm, vo⟩ := sv
  obtain ⟨aa, ab, ac, ap, am, ao⟩ := av
  dsimp only [SV.cells] at HP HA
  go_enter Tryz.func141, Tryz.ntmps141
  go_upto_block 0 with fail
  go_cut [0, 6] from 14 to 51 (fun v0 v6 wx => v0 = .string u ∧ v6 = .string ⟨#[61, 60]⟩ ∧ Aside0 (Blks w wx []))
  case first =>
   go_wp2_with fail
   go_loopw [0, 6] (fun v0 v6 wr => ∃ (s a : ByteArray), v0 = .string s ∧ v6 = .string a ∧ Hid (a.data.toList ++ sgL s.data.toList = sgL t.data.toList) ∧ Hid (unSgL s.data.toList = unSgL t.data.toList) ∧ Hid (s.size + a.size = t.size) ∧ Aside0 (Blks w wr [])) (fun v0 _ _ => strL v0)
   case atStart => exact ⟨t, ⟨#[]⟩, rfl, rfl, Lib.hid rfl, Lib.hid rfl, Lib.hid rfl, ⟨n_own⟩⟩
   case round =>
     obtain ⟨s, a, rfl, rfl, HS, HUS, HZ, HM1⟩ := hrel
     clear HM
     have HM := HM1
     clear HM1
     cases hl : s.data.toList with
     | nil =>
       have e0 : s.toList.isEmpty = true := by rw [ByteArray.toList_eq, hl]; rfl
       have ea : a.data.toList = ([61, 60] : Bs) := by have := HS.out; rw [hl, HSG.out] at this; simpa [sgL] using this
       obtain rfl : a = ⟨#[61, 60]⟩ := by apply ByteArray.ext; apply Array.ext'; exact ea
       obtain rfl : s = u := by rw [HU.out, ← HUS.out, hl]; apply ByteArray.ext; apply Array.ext'; rw [hl]; rfl
       clear ea hl HS HUS
       go_wp2_with fail
       go_meet
       case rel => exact ⟨rfl, rfl, ⟨n_own⟩⟩
     | cons c l =>
       obtain ⟨h0, hc0, hx0, hx1⟩ := text_cons hl
       have e0 : s.toList.isEmpty = false := by rw [ByteArray.toList_eq, hl]; rfl
       cases hsc : isSg c with
       | false =>
         obtain ⟨q61, q33, q60, q62, q126, q94⟩ := sgq_no (show isSg s[0] = false by rw [hc0]; exact hsc)
         have ea : a.data.toList = ([61, 60] : Bs) := by have := HS.out; rw [hl, HSG.out, sgL, hsc] at this; simpa using this
         obtain rfl : a = ⟨#[61, 60]⟩ := by apply ByteArray.ext; apply Array.ext'; exact ea
         obtain rfl : s = u := by rw [HU.out, ← HUS.out, hl, unSgL, hsc, if_neg (by simp), ← hl, mkT_of]
         clear ea hl HS HUS hsc hc0 hx0 hx1
         go_wp2_with fail
         go_meet
         case rel => exact ⟨rfl, rfl, ⟨n_own⟩⟩
       | true =>
         have hs1 : (1 : Int) ≤ (s.size : Int) := by omega
         have hrel' : (a ++ s.extract 0 1).data.toList ++ sgL (s.extract 1 s.size).data.toList = sgL t.data.toList := by
           rw [← HS.out, hl, sgL, hsc, if_pos rfl, hx0, hx1, mkT_list, ByteArray.data_append, Array.toList_append, List.append_assoc]; rfl
         have hun : unSgL (s.extract 1 s.size).data.toList = unSgL t.data.toList := by
           rw [← HUS.out, hl, unSgL, hsc, if_pos rfl, hx1, mkT_list]
         have hz : (s.extract 1 s.size).size + (a ++ s.extract 0 1).size = t.size := by
           have := HZ.out
           rw [ByteArray.size_append, ByteArray.size_extract, ByteArray.size_extract]; omega
         have hmz : (s.extract 1 s.size).size < s.size := by rw [ByteArray.size_extract]; omega
         have hcat : ¬ (9223372036854775807 < a.size + min 1 s.size) := by have := HZ.out; have := HT.out; omega
         have HR1 := Lib.hid hrel'
         have HR2 := Lib.hid hun
         have HR3 := Lib.hid hz
         have HR4 := Lib.hid hmz
         clear hrel' hun hz hmz
         have hq := sgq_yes (show isSg s[0] = true by rw [hc0]; exact hsc)
         clear hl hx0 hx1 hsc hc0
         rcases hq with q61 | ⟨q61, q33⟩ | ⟨q61, q33, q60⟩ | ⟨q61, q33, q60, q62⟩ | ⟨q61, q33, q60, q62, q126⟩ | ⟨q61, q33, q60, q62, q126, q94⟩
         all_goals
           go_wp2_with fail
           exact ⟨⟨_, _, rfl, rfl, HR1, HR2, HR3, HM⟩, HR4.out⟩
  case rest =>
    obtain ⟨rfl, rfl, HM1⟩ := hcut
    clear HM
    have HM := HM1
    clear HM1
    rcases HNN.out with rfl | rfl | rfl | rfl
    all_goals
      have hr := HR.out
      simp only [Int.reduceEq, if_true, if_false, reduceIte] at hr
      subst hr
      clear HR
      go_wp2_with (first | (go_at_call 142; ((with_reducible refine (HTR.out _ HUZ.out).mono ?_); rintro e w4 ⟨rfl, ⟨nq, rfl⟩⟩; replace HM := n_drew nq)) | (go_at_call 150; ((with_reducible refine (HP.out _ n_bel).mono ?_); rintro e w5 ⟨rfl, hb⟩; replace HM := n_call hb; clear hb)) | (go_at_call 151; ((with_reducible refine (HA.out _).mono ?_); rintro e w6 ⟨rfl, hb⟩; replace HM := n_call hb; clear hb)) | ((with_reducible refine id_load ?_); refine n_ld ?_) | ((with_reducible refine id_store ?_); (refine n_st ?_; clear HM; intro wq HM)) | ((with_reducible refine id_alloc ?_); (refine n_al ?_; clear HM; intro bq wq HM)) | ((with_reducible refine id_slice (ty := 236) (n := 1) ?_); (refine n_sl Tryz.underlying236 (by rw [Array.toList_map]; exact slice_one infoPc rfl (by decide) _ rfl) ?_; clear HM; intro bs wq HM)))
      go_ret2
      first | exact R1End.one HM.out n_mem rfl (vs_nil _ _)
set_option maxRecDepth 20000 in
set_option maxHeartbeats 16000000 in
theorem r1_ti (t u : ByteArray) (b : Bool) (nI : Int) (hn : nI = 0 ∨ nI = 1 ∨ nI = 2 ∨ nI = 3) (sv av a2 : SV) (hsg : sgL t.data.toList = ([126] : Bs)) (hu : u = mkT (unSgL t.data.toList)) (w : World)
    (hP : ∀ W, Below w.heap.size w W → Calls Tryz.prog 150 #[.string (trimD u)] W fun e w' => e = .returned (.tuple #[.agg sv.cells, .int .i64 nI, .nilIface]) ∧ Below W.heap.size W w')
    (hA : ∀ W, Calls Tryz.prog 151 #[.agg sv.cells, .int .i64 nI] W fun e w' => e = .returned (.agg av.cells) ∧ Below W.heap.size W w')
    (hA2 : ∀ W, Calls Tryz.prog 151 #[.agg sv.cells, .int .i64 (if nI = 1 then 1 else 2)] W fun e w' => e = .returned (.agg a2.cells) ∧ Below W.heap.size W w')
    (hts : t.size ≤ 100000) (r : Option CnD) (hr : (if nI = 0 then some (.rng [zPD]) else if nI = 3 then some (.rng [inP sv a2]) else some (.rng [inP sv a2])) = r) : Calls Tryz.prog 141 #[.string t, .bool b] w (R1End r w) := by
  have HT := Lib.hid hts
  have HP := Lib.hid hP
  have HA := Lib.hid hA
  have HNN := Lib.hid hn
  have HR := Lib.hid hr
  have HA2 := Lib.hid hA2
  have HSG := Lib.hid hsg
  have HU := Lib.hid hu
  have HUZ := Lib.hid (show u.size ≤ 1000000000000 by have h1 := unSgL_len t.data.toList; have h2 : t.data.toList.length = t.size := Array.length_toList; have h3 : u.size = (unSgL t.data.toList).length := (by rw [hu, mkT_size]); omega)
  have HTR := Lib.hid (fun W (h : u.size ≤ 1000000000000) => trimD_calls u h W)
  have HM := Aside0.mk (Blks.start w)
  clear hts hsg hu hP hA hn hr
  obtain ⟨va, vb, vc, vp, vm, vo⟩ := sv
  obtain ⟨aa, ab, ac, ap, am, ao⟩ := av
  obtain ⟨da, db, dc, dp, dm, do'⟩ := a2
  clear hA2
  dsimp only [SV.cells] at HP HA HA2
  go_enter Tryz.func141, Tryz.ntmps141
  go_upto_block 0 with fail
  go_cut [0, 6] from 14 to 51 (fun v0 v6 wx => v0 = .string u ∧ v6 = .string ⟨#[126]⟩ ∧ Aside0 (Blks w wx []))
  case first =>
   go_wp2_with fail
   go_loopw [0, 6] (fun v0 v6 wr => ∃ (s a : ByteArray), v0 = .string s ∧ v6 = .string a ∧ Hid (a.data.toList ++ sgL s.data.toList = sgL t.data.toList) ∧ Hid (unSgL s.data.toList = unSgL t.data.toList) ∧ Hid (s.size + a.size = t.size) ∧ Aside0 (Blks w wr [])) (fun v0 _ _ => strL v0)
   case atStart => exact ⟨t, ⟨#[]⟩, rfl, rfl, Lib.hid rfl, Lib.hid rfl, Lib.hid rfl, ⟨n_own⟩⟩
   case round =>
     obtain ⟨s, a, rfl, rfl, HS, HUS, HZ, HM1⟩ := hrel
     clear HM
     have HM := HM1
     clear HM1
     cases hl : s.data.toList with
     | nil =>
       have e0 : s.toList.isEmpty = true := by rw [ByteArray.toList_eq, hl]; rfl
       have ea : a.data.toList = ([126] : Bs) := by have := HS.out; rw [hl, HSG.out] at this; simpa [sgL] using this
       obtain rfl : a = ⟨#[126]⟩ := by apply ByteArray.ext; apply Array.ext'; exact ea
       obtain rfl : s = u := by rw [HU.out, ← HUS.out, hl]; apply ByteArray.ext; apply Array.ext'; rw [hl]; rfl
       clear ea hl HS HUS
       go_wp2_with fail
       go_meet
       case rel => exact ⟨rfl, rfl, ⟨n_own⟩⟩
     | cons c l =>
       obtain ⟨h0, hc0, hx0, hx1⟩ := text_cons hl
       have e0 : s.toList.isEmpty = false := by rw [ByteArray.toList_eq, hl]; rfl
       cases hsc : isSg c with
       | false =>
         obtain ⟨q61, q33, q60, q62, q126, q94⟩ := sgq_no (show isSg s[0] = false by rw [hc0]; exact hsc)
         have ea : a.data.toList = ([126] : Bs) := by have := HS.out; rw [hl, HSG.out, sgL, hsc] at this; simpa using this
         obtain rfl : a = ⟨#[126]⟩ := by apply ByteArray.ext; apply Array.ext'; exact ea
         obtain rfl : s = u := by rw [HU.out, ← HUS.out, hl, unSgL, hsc, if_neg (by simp), ← hl, mkT_of]
         clear ea hl HS HUS hsc hc0 hx0 hx1
         go_wp2_with fail
         go_meet
         case rel => exact ⟨rfl, rfl, ⟨n_own⟩⟩
       | true =>
         have hs1 : (1 : Int) ≤ (s.size : Int) := by omega
         have hrel' : (a ++ s.extract 0 1).data.toList ++ sgL (s.extract 1 s.size).data.toList = sgL t.data.toList := by
           rw [← HS.out, hl, sgL, hsc, if_pos rfl, hx0, hx1, mkT_list, ByteArray.data_append, Array.toList_append, List.append_assoc]; rfl
         have hun : unSgL (s.extract 1 s.size).data.toList = unSgL t.data.toList := by
           rw [← HUS.out, hl, unSgL, hsc, if_pos rfl, hx1, mkT_list]
         have hz : (s.extract 1 s.size).size + (a ++ s.extract 0 1).size = t.size := by
           have := HZ.out
           rw [ByteArray.size_append, ByteArray.size_extract, ByteArray.size_extract]; omega
         have hmz : (s.extract 1 s.size).size < s.size := by rw [ByteArray.size_extract]; omega
         have hcat : ¬ (9223372036854775807 < a.size + min 1 s.size) := by have := HZ.out; have := HT.out; omega
         have HR1 := Lib.hid hrel'
         have HR2 := Lib.hid hun
         have HR3 := Lib.hid hz
         have HR4 := Lib.hid hmz
         clear hrel' hun hz hmz
         have hq := sgq_yes (show isSg s[0] = true by rw [hc0]; exact hsc)
         clear hl hx0 hx1 hsc hc0
         rcases hq with q61 | ⟨q61, q33⟩ | ⟨q61, q33, q60⟩ | ⟨q61, q33, q60, q62⟩ | ⟨q61, q33, q60, q62, q126⟩ | ⟨q61, q33, q60, q62, q126, q94⟩
         all_goals
           go_wp2_with fail
           exact ⟨⟨_, _, rfl, rfl, HR1, HR2, HR3, HM⟩, HR4.out⟩
  case rest =>
    obtain ⟨rfl, rfl, HM1⟩ := hcut
    clear HM
    have HM := HM1
    clear HM1
    rcases HNN.out with rfl | rfl | rfl | rfl
    all_goals
      have hr := HR.out
      simp only [Int.reduceEq, if_true, if_false, reduceIte] at hr
      subst hr
      clear HR
      simp only [Int.reduceEq, if_true, if_false, reduceIte] at HA2
      have mn1 : min (1 : Int) 2 = 1 := by decide
      have mn3 : min (3 : Int) 2 = 2 := by decide
      go_wp2_with (first | (go_at_call 142; ((with_reducible refine (HTR.out _ HUZ.out).mono ?_); rintro e w4 ⟨rfl, ⟨nq, rfl⟩⟩; replace HM := n_drew nq)) | (go_at_call 150; ((with_reducible refine (HP.out _ n_bel).mono ?_); rintro e w5 ⟨rfl, hb⟩; replace HM := n_call hb; clear hb)) | (go_at_call 151; ((with_reducible refine (HA.out _).mono ?_); rintro e w6 ⟨rfl, hb⟩; replace HM := n_call hb; clear hb; clear HA)) | (go_at_call 151; ((with_reducible refine (HA2.out _).mono ?_); rintro e w7 ⟨rfl, hb⟩; replace HM := n_call hb; clear hb)) | ((with_reducible refine id_load ?_); refine n_ld ?_) | ((with_reducible refine id_store ?_); (refine n_st ?_; clear HM; intro wq HM)) | ((with_reducible refine id_load ?_); refine n_ld1 ?_) | ((with_reducible refine id_store ?_); (refine n_st1 ?_; clear HM; intro wq HM)) | ((with_reducible refine id_alloc ?_); (refine n_al ?_; clear HM; intro bq wq HM)) | ((with_reducible refine id_slice (ty := 236) (n := 1) ?_); (refine n_sl Tryz.underlying236 (by rw [Array.toList_map]; exact slice_one infoPc rfl (by decide) _ rfl) ?_; clear HM; intro bs wq HM)))
      go_ret2
      first | exact R1End.one HM.out n_mem rfl (vs_nil _ _)
end Go.Proofs.YtgoeiflddikihaaGreatDoor.Ver
end
