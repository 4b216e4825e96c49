/- Merged by program out of: SpecB. -/
import Derived.Test.YtgoeiflddikihaaGreatDoorCpM32
section
namespace Go.Proofs.YtgoeiflddikihaaGreatDoor.Ver
set_option linter.unusedSimpArgs false
set_option linter.unusedVariables false
open Go.RowKit Go.Proofs.YtgoeiflddikihaaGreatDoor.Dig Go.Proofs.YtgoeiflddikihaaGreatDoorW.PrintWords Go.Proofs.YtgoeiflddikihaaGreatDoor.Mem
instance : RowC Tryz.prog 30 3 := ⟨⟨_, Tryz.underlying30, rfl⟩, by kernel_rfl⟩
instance : OneC Tryz.prog 2 := ⟨⟨_, Tryz.underlying2, rfl⟩, by kernel_rfl⟩
theorem Blks.strsAdd {w0 w w1 : World} {L : List Blk} (h : Blks w0 w L) (hb : Below w.heap.size w w1) {P : Value} {pp : List ByteArray} (hP : StrsAt 9 w1 w.heap.size P pp) : ∃ X, PreOk pp P X ∧ Blks w0 w1 (L ++ X) := by
  rcases hP with ⟨rfl, rfl⟩ | ⟨g, cap, cells, rest, rfl, h1, h2, h3⟩
  · exact ⟨[], Or.inl ⟨rfl, rfl, rfl⟩, by rw [List.append_nil]; exact h.call hb⟩
  · exact ⟨_, Or.inr ⟨g, cap, rest, rfl, rfl⟩, (h.add hb h1 h2 h3).perm (List.perm_append_comm (l₁ := [_]) (l₂ := L))⟩
def typS (k : Int) (t : ByteArray) : Int := if k = 0 then 0 else if k = 1 ∨ k = 2 then 3 else if (qSemB0 t.data.toList).isSome then 2 else 1
def svOf (t : ByteArray) : SV := match qSemB0 t.data.toList with
  | none => zV
  | some (ns, pre, mt) => ⟨(ns.getD 0 0 : Nat), (ns.getD 1 0 : Nat), (ns.getD 2 0 : Nat), mkB pre, mkB mt, t⟩
def cntOf (t : ByteArray) : Nat := match qSemB0 t.data.toList with
  | none => 0
  | some (ns, _, _) => ns.length
theorem sv_read (t : ByteArray) (h : (qSemB0 t.data.toList).isSome = true) : readV t = some (svOf t, cntOf t) := by
  rw [readV_eq, qReadB]
  unfold svOf cntOf
  cases hq : qSemB0 t.data.toList with
  | none => rw [hq] at h; cases h
  | some q => obtain ⟨ns, pre, mt⟩ := q; rfl
theorem read_yes (t : ByteArray) (ht : t.size ≤ 100000) (h : (qSemB0 t.data.toList).isSome = true) (w : World) : Calls Tryz.prog 34 #[.string t] w fun e w' => (∃ v, e = .returned (.tuple #[v, .bool true]) ∧ SemAt w' w.heap.size v (svOf t) (cntOf t)) ∧ Below w.heap.size w w' := by
  refine (read_sem t ht w).mono ?_
  intro e w' hE
  unfold svOf cntOf
  cases hq : qSemB0 t.data.toList with
  | none => rw [hq] at h; cases h
  | some q =>
    obtain ⟨ns, pre, mt⟩ := q
    rw [hq] at hE
    obtain ⟨⟨P, h1, h2⟩, h3⟩ := hE
    exact ⟨⟨_, h1, P, rfl, h2⟩, h3⟩
theorem read_no (t : ByteArray) (ht : t.size ≤ 100000) (h : (qSemB0 t.data.toList).isSome = false) (w : World) : Calls Tryz.prog 34 #[.string t] w (RdNo w) := by
  refine (read_sem t ht w).mono ?_
  intro e w' hE
  cases hq : qSemB0 t.data.toList with
  | none => rw [hq] at hE; exact hE
  | some q => rw [hq] at h; cases h
set_option maxRecDepth 20000 in
set_option maxHeartbeats 4000000 in
theorem type_any (k : Int) (t r : ByteArray) (hk : 0 ≤ k ∧ k ≤ 3) (ht : t.size ≤ 100000) (w : World) :
    Calls Tryz.prog 44 #[.agg #[.int .i64 k, .string t, .string r]] w fun e w' => e = .returned (.int .i64 (typS k t)) ∧ Below w.heap.size w w' := by
  have HM := Aside0.mk (Blks.start w)
  obtain rfl | rfl | rfl | rfl : k = 0 ∨ k = 1 ∨ k = 2 ∨ k = 3 := by omega
  · clear hk
    go_enter Tryz.func44, Tryz.ntmps44
    go_wp2_with (first | (refine m_box (by repeat (first | exact HM.out | apply Blks.drewN | apply Blks.drew | apply Blks.other)) (h := ?_); intro bb _ HN; clear HM; have HM := HN; clear HN) | (refine m_load1 (by repeat (first | exact HM.out | apply Blks.drewN | apply Blks.drew | apply Blks.other)) (h := ?_)))
    go_ret
    exact ⟨rfl, HM.out.bel⟩
  · clear hk
    go_enter Tryz.func44, Tryz.ntmps44
    go_wp2_with (first | (refine m_box (by repeat (first | exact HM.out | apply Blks.drewN | apply Blks.drew | apply Blks.other)) (h := ?_); intro bb _ HN; clear HM; have HM := HN; clear HN) | (refine m_load1 (by repeat (first | exact HM.out | apply Blks.drewN | apply Blks.drew | apply Blks.other)) (h := ?_)))
    go_ret
    exact ⟨rfl, HM.out.bel⟩
  · clear hk
    go_enter Tryz.func44, Tryz.ntmps44
    go_wp2_with (first | (refine m_box (by repeat (first | exact HM.out | apply Blks.drewN | apply Blks.drew | apply Blks.other)) (h := ?_); intro bb _ HN; clear HM; have HM := HN; clear HN) | (refine m_load1 (by repeat (first | exact HM.out | apply Blks.drewN | apply Blks.drew | apply Blks.other)) (h := ?_)))
    go_ret
    exact ⟨rfl, HM.out.bel⟩
  · clear hk
    cases hq : (qSemB0 t.data.toList).isSome with
    | false =>
      have e : typS 3 t = 1 := by unfold typS; rw [hq]; rfl
      rw [e]
      have HR := Lib.hid (fun W => read_no t ht hq W)
      clear e hq ht
      go_enter Tryz.func44, Tryz.ntmps44
      go_wp2_with (first | (refine m_box (by repeat (first | exact HM.out | apply Blks.drewN | apply Blks.drew | apply Blks.other)) (h := ?_); intro bb _ HN; clear HM; have HM := HN; clear HN) | (refine m_load1 (by repeat (first | exact HM.out | apply Blks.drewN | apply Blks.drew | apply Blks.other)) (h := ?_)) | (go_at_call 34; ((with_reducible refine (HR.out _).mono ?_); rintro e w2 ⟨rfl, hb⟩; have HN := Aside0.mk (Blks.call (by repeat (first | exact HM.out | apply Blks.drewN | apply Blks.drew | apply Blks.other)) hb); clear HM hb; have HM := HN; clear HN)) | (refine m_alloc (by repeat (first | exact HM.out | apply Blks.drewN | apply Blks.drew | apply Blks.other)) (h := ?_); intro bx _ HN; clear HM; have HM := HN; clear HN) | (refine m_store (by repeat (first | exact HM.out | apply Blks.drewN | apply Blks.drew | apply Blks.other)) (h := ?_); intro _ HN; clear HM; have HM := HN; clear HN))
      go_ret
      exact ⟨rfl, HM.out.bel⟩
    | true =>
      have e : typS 3 t = 2 := by unfold typS; rw [hq]; rfl
      rw [e]
      have HR := Lib.hid (fun W => read_yes t ht hq W)
      clear e hq ht
      go_enter Tryz.func44, Tryz.ntmps44
      go_wp2_with (first | (refine m_box (by repeat (first | exact HM.out | apply Blks.drewN | apply Blks.drew | apply Blks.other)) (h := ?_); intro bb _ HN; clear HM; have HM := HN; clear HN) | (refine m_load1 (by repeat (first | exact HM.out | apply Blks.drewN | apply Blks.drew | apply Blks.other)) (h := ?_)) | (go_at_call 34; ((with_reducible refine (HR.out _).mono ?_); rintro e w2 ⟨⟨v, rfl, P, rfl, hP⟩, hb⟩; have HO := Lib.hid (show P.oneCell' = true by obtain ⟨_, _, rfl⟩ := hP.val; rfl); obtain ⟨X, HX, HN⟩ := Blks.strsAdd (by repeat (first | exact HM.out | apply Blks.drewN | apply Blks.drew | apply Blks.other)) hb hP; simp only [List.cons_append, List.nil_append] at HN; clear HM hb hP; have HM := Aside0.mk HN; clear HN)) | (refine m_alloc (by repeat (first | exact HM.out | apply Blks.drewN | apply Blks.drew | apply Blks.other)) (h := ?_); intro bx _ HN; clear HM; have HM := HN; clear HN) | (refine m_store (by repeat (first | exact HM.out | apply Blks.drewN | apply Blks.drew | apply Blks.other)) (h1 := semOne HO.out) (h := ?_); intro _ HN; clear HM; have HM := HN; clear HN))
      go_ret
      exact ⟨rfl, HM.out.bel⟩
set_option maxRecDepth 20000 in
set_option maxHeartbeats 4000000 in
theorem versem_any (k : Int) (t r : ByteArray) (ht : t.size ≤ 100000) (h : (qSemB0 t.data.toList).isSome = true) (w : World) :
    Calls Tryz.prog 68 #[.agg #[.int .i64 k, .string t, .string r]] w fun e w' => (∃ v, e = .returned v ∧ SemAt w' w.heap.size v (svOf t) (cntOf t)) ∧ Below w.heap.size w w' := by
  have HM := Aside0.mk (Blks.start w)
  have HR := Lib.hid (fun W => read_yes t ht h W)
  clear h ht
  generalize svOf t = sv at *
  generalize cntOf t = ct at *
  go_enter Tryz.func68, Tryz.ntmps68
  go_wp2_with (first | (refine m_box (by repeat (first | exact HM.out | apply Blks.drewN | apply Blks.drew | apply Blks.other)) (h := ?_); intro bb _ HN; clear HM; have HM := HN; clear HN) | (refine m_load1 (by repeat (first | exact HM.out | apply Blks.drewN | apply Blks.drew | apply Blks.other)) (h := ?_)) | (go_at_call 34; ((with_reducible refine (HR.out _).mono ?_); rintro e w2 ⟨⟨v, rfl, P, rfl, hP⟩, hb⟩; have HO := Lib.hid (show P.oneCell' = true by obtain ⟨_, _, rfl⟩ := hP.val; rfl); obtain ⟨X, HX, HN⟩ := Blks.strsAdd (by repeat (first | exact HM.out | apply Blks.drewN | apply Blks.drew | apply Blks.other)) hb hP; simp only [List.cons_append, List.nil_append] at HN; clear HM hb hP; have HM := Aside0.mk HN; clear HN)) | (refine m_alloc (d := some 2) (by repeat (first | exact HM.out | apply Blks.drewN | apply Blks.drew | apply Blks.other)) (h := ?_); intro br _ HN; clear HM; have HM := HN; clear HN) | (refine m_alloc (by repeat (first | exact HM.out | apply Blks.drewN | apply Blks.drew | apply Blks.other)) (h := ?_); intro bx _ HN; clear HM; have HM := HN; clear HN) | (refine m_store (by repeat (first | exact HM.out | apply Blks.drewN | apply Blks.drew | apply Blks.other)) (h1 := semOne HO.out) (h := ?_); intro _ HN; clear HM; have HM := HN; clear HN) | (refine m_load (by repeat (first | exact HM.out | apply Blks.drewN | apply Blks.drew | apply Blks.other)) (h := ?_)))
  have k0 := Blks.cell HM.out (b := br) (o := 0) (by repeat (first | exact List.Mem.head _ | apply List.Mem.tail)) (by repeat (first | exact Rd.nil | apply Rd.here | apply Rd.skip)); have k1 := Blks.cell HM.out (b := br) (o := 1) (by repeat (first | exact List.Mem.head _ | apply List.Mem.tail)) (by repeat (first | exact Rd.nil | apply Rd.here | apply Rd.skip)); have k2 := Blks.cell HM.out (b := br) (o := 2) (by repeat (first | exact List.Mem.head _ | apply List.Mem.tail)) (by repeat (first | exact Rd.nil | apply Rd.here | apply Rd.skip)); have k3 := Blks.cell HM.out (b := br) (o := 3) (by repeat (first | exact List.Mem.head _ | apply List.Mem.tail)) (by repeat (first | exact Rd.nil | apply Rd.here | apply Rd.skip)); have k4 := Blks.cell HM.out (b := br) (o := 4) (by repeat (first | exact List.Mem.head _ | apply List.Mem.tail)) (by repeat (first | exact Rd.nil | apply Rd.here | apply Rd.skip)); have k5 := Blks.cell HM.out (b := br) (o := 5) (by repeat (first | exact List.Mem.head _ | apply List.Mem.tail)) (by repeat (first | exact Rd.nil | apply Rd.here | apply Rd.skip))
  refine bodyPost_ret (v := .agg #[.int .u64 sv.major, .int .u64 sv.minor, .int .u64 sv.patch, .int .i64 ct, P, .string sv.mt]) (by simp [results, Tryz.results68, go_sem, *]) rfl ⟨⟨_, rfl, P, rfl, HX.strs (Y := [_, _, _]) HM.out⟩, HM.out.bel⟩
def rankS (k : Int) (t : ByteArray) : Int := if typS k t = 0 then 3 else if typS k t = 1 then 2 else if typS k t = 2 then 0 else 1
theorem typS_val (k : Int) (t : ByteArray) : typS k t = 0 ∨ typS k t = 1 ∨ typS k t = 2 ∨ typS k t = 3 := by
  unfold typS; repeat' split
  all_goals simp
theorem rankSlice : Tryz.prog.builtSlice 3 4 [(0, .int .i64 3), (1, .int .i64 2), (2, .int .i64 0), (3, .int .i64 1)] = some #[.int .i64 3, .int .i64 2, .int .i64 0, .int .i64 1] := by kernel_rfl
set_option maxRecDepth 20000 in
set_option maxHeartbeats 4000000 in
theorem rank_any (k : Int) (t r : ByteArray) (hk : 0 ≤ k ∧ k ≤ 3) (ht : t.size ≤ 100000) (w : World) :
    Calls Tryz.prog 107 #[.agg #[.int .i64 k, .string t, .string r]] w fun e w' => e = .returned (.int .i64 (rankS k t)) ∧ Below w.heap.size w w' := by
  have HM := Aside0.mk (Blks.start w)
  have hT := fun W => type_any k t r hk ht W
  rcases typS_val k t with h | h | h | h
  · have hr : rankS k t = 3 := by unfold rankS; rw [h]; rfl
    rw [hr]
    simp only [h] at hT
    have HT := Lib.hid hT
    clear h hr hT hk ht
    go_enter Tryz.func107, Tryz.ntmps107
    go_wp2_with (first | (refine m_box (by repeat (first | exact HM.out | apply Blks.drewN | apply Blks.drew | apply Blks.other)) (h := ?_); intro bb _ HN; clear HM; have HM := HN; clear HN) | (refine m_load1 (by repeat (first | exact HM.out | apply Blks.drewN | apply Blks.drew | apply Blks.other)) (h := ?_)) | (go_at_call 44; ((with_reducible refine (HT.out _).mono ?_); rintro e w2 ⟨rfl, hb⟩; have HN := Aside0.mk (Blks.call (by repeat (first | exact HM.out | apply Blks.drewN | apply Blks.drew | apply Blks.other)) hb); clear HM hb; have HM := HN; clear HN)) | (refine m_slice (by exact Tryz.underlying217) (by rw [Array.toList_map]; exact rankSlice) (by repeat (first | exact HM.out | apply Blks.drewN | apply Blks.drew | apply Blks.other)) (h := ?_); intro bs _ HN; clear HM; have HM := HN; clear HN) | (refine m_load (by repeat (first | exact HM.out | apply Blks.drewN | apply Blks.drew | apply Blks.other)) (h := ?_)))
    go_ret
    exact ⟨rfl, HM.out.bel⟩
  · have hr : rankS k t = 2 := by unfold rankS; rw [h]; rfl
    rw [hr]
    simp only [h] at hT
    have HT := Lib.hid hT
    clear h hr hT hk ht
    go_enter Tryz.func107, Tryz.ntmps107
    go_wp2_with (first | (refine m_box (by repeat (first | exact HM.out | apply Blks.drewN | apply Blks.drew | apply Blks.other)) (h := ?_); intro bb _ HN; clear HM; have HM := HN; clear HN) | (refine m_load1 (by repeat (first | exact HM.out | apply Blks.drewN | apply Blks.drew | apply Blks.other)) (h := ?_)) | (go_at_call 44; ((with_reducible refine (HT.out _).mono ?_); rintro e w2 ⟨rfl, hb⟩; have HN := Aside0.mk (Blks.call (by repeat (first | exact HM.out | apply Blks.drewN | apply Blks.drew | apply Blks.other)) hb); clear HM hb; have HM := HN; clear HN)) | (refine m_slice (by exact Tryz.underlying217) (by rw [Array.toList_map]; exact rankSlice) (by repeat (first | exact HM.out | apply Blks.drewN | apply Blks.drew | apply Blks.other)) (h := ?_); intro bs _ HN; clear HM; have HM := HN; clear HN) | (refine m_load (by repeat (first | exact HM.out | apply Blks.drewN | apply Blks.drew | apply Blks.other)) (h := ?_)))
    go_ret
    exact ⟨rfl, HM.out.bel⟩
  · have hr : rankS k t = 0 := by unfold rankS; rw [h]; rfl
    rw [hr]
    simp only [h] at hT
    have HT := Lib.hid hT
    clear h hr hT hk ht
    go_enter Tryz.func107, Tryz.ntmps107
    go_wp2_with (first | (refine m_box (by repeat (first | exact HM.out | apply Blks.drewN | apply Blks.drew | apply Blks.other)) (h := ?_); intro bb _ HN; clear HM; have HM := HN; clear HN) | (refine m_load1 (by repeat (first | exact HM.out | apply Blks.drewN | apply Blks.drew | apply Blks.other)) (h := ?_)) | (go_at_call 44; ((with_reducible refine (HT.out _).mono ?_); rintro e w2 ⟨rfl, hb⟩; have HN := Aside0.mk (Blks.call (by repeat (first | exact HM.out | apply Blks.drewN | apply Blks.drew | apply Blks.other)) hb); clear HM hb; have HM := HN; clear HN)) | (refine m_slice (by exact Tryz.underlying217) (by rw [Array.toList_map]; exact rankSlice) (by repeat (first | exact HM.out | apply Blks.drewN | apply Blks.drew | apply Blks.other)) (h := ?_); intro bs _ HN; clear HM; have HM := HN; clear HN) | (refine m_load (by repeat (first | exact HM.out | apply Blks.drewN | apply Blks.drew | apply Blks.other)) (h := ?_)))
    go_ret
    exact ⟨rfl, HM.out.bel⟩
  · have hr : rankS k t = 1 := by unfold rankS; rw [h]; rfl
    rw [hr]
    simp only [h] at hT
    have HT := Lib.hid hT
    clear h hr hT hk ht
    go_enter Tryz.func107, Tryz.ntmps107
    go_wp2_with (first | (refine m_box (by repeat (first | exact HM.out | apply Blks.drewN | apply Blks.drew | apply Blks.other)) (h := ?_); intro bb _ HN; clear HM; have HM := HN; clear HN) | (refine m_load1 (by repeat (first | exact HM.out | apply Blks.drewN | apply Blks.drew | apply Blks.other)) (h := ?_)) | (go_at_call 44; ((with_reducible refine (HT.out _).mono ?_); rintro e w2 ⟨rfl, hb⟩; have HN := Aside0.mk (Blks.call (by repeat (first | exact HM.out | apply Blks.drewN | apply Blks.drew | apply Blks.other)) hb); clear HM hb; have HM := HN; clear HN)) | (refine m_slice (by exact Tryz.underlying217) (by rw [Array.toList_map]; exact rankSlice) (by repeat (first | exact HM.out | apply Blks.drewN | apply Blks.drew | apply Blks.other)) (h := ?_); intro bs _ HN; clear HM; have HM := HN; clear HN) | (refine m_load (by repeat (first | exact HM.out | apply Blks.drewN | apply Blks.drew | apply Blks.other)) (h := ?_)))
    go_ret
    exact ⟨rfl, HM.out.bel⟩
end Go.Proofs.YtgoeiflddikihaaGreatDoor.Ver
end
