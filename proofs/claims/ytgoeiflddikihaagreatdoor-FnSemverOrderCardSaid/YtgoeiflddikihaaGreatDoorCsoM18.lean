/- Merged by program out of: RgI, RgJ. -/
import Derived.Test.YtgoeiflddikihaaGreatDoorCsoM13
import Derived.Test.YtgoeiflddikihaaGreatDoorCsoM16
import Derived.Test.YtgoeiflddikihaaGreatDoorCsoM17
import Derived.Test.YtgoeiflddikihaaGreatDoorCsoM3
import Derived.Test.YtgoeiflddikihaaGreatDoorCsoM11
section
namespace Go.Proofs.YtgoeiflddikihaaGreatDoor.Ver
set_option linter.unusedSimpArgs false
set_option linter.unusedVariables false
open Go.RowKit Go.Proofs.YtgoeiflddikihaaGreatDoorW.PrintWords Go.Proofs.YtgoeiflddikihaaGreatDoor.Mem Go.Proofs.YtgoeiflddikihaaGreatDoor.Ord
def keepE (acc : List PD) (b : PD) : List PD := if emptyD b then acc else acc ++ [b]
def meetP (p : PD) : List PD → List PD → List PD
  | acc, [] => acc
  | acc, q :: m => meetP p (keepE acc (bothD p q)) m
def meetL (m : List PD) : List PD → List PD → List PD
  | acc, [] => acc
  | acc, p :: l => meetL m (meetP p acc m) l
def isectD (l : List PD) (c : CnD) : CnD := match c with
  | .ver u => isectV u (.rng l)
  | .rng m => .rng (meetL m [] l)
theorem keepE_len (acc : List PD) (b : PD) : (keepE acc b).length ≤ acc.length + 1 := by unfold keepE; split <;> simp
theorem meetP_len (p : PD) : ∀ (m acc : List PD), (meetP p acc m).length ≤ acc.length + m.length
  | [], acc => Nat.le_refl _
  | q :: m, acc => by
    have h1 := meetP_len p m (keepE acc (bothD p q))
    have h2 := keepE_len acc (bothD p q)
    rw [meetP, List.length_cons]; omega
theorem keepE_ok {acc : List PD} {b : PD} (h : RngOk acc) (hb : PDok b) : RngOk (keepE acc b) := by
  unfold keepE; split
  · exact h
  · intro x hx
    rcases List.mem_append.1 hx with hx | hx
    · exact h x hx
    · rw [List.mem_singleton.1 hx]; exact hb
theorem meetP_ok {p : PD} (hp : PDok p) : ∀ {m acc : List PD}, RngOk acc → RngOk m → RngOk (meetP p acc m)
  | [], acc, h, _ => h
  | q :: m, acc, h, hm => by
    rw [meetP]
    exact meetP_ok hp (keepE_ok h (bothD_ok hp (hm q List.mem_cons_self))) (fun x hx => hm x (List.mem_cons_of_mem _ hx))
theorem meetL_ok {m : List PD} (hm : RngOk m) : ∀ {l acc : List PD}, RngOk acc → RngOk l → RngOk (meetL m acc l)
  | [], acc, h, _ => h
  | p :: l, acc, h, hl => by
    rw [meetL]
    exact meetL_ok hm (meetP_ok (hl p List.mem_cons_self) h hm) (fun x hx => hl x (List.mem_cons_of_mem _ hx))
inductive PRepB : List Value → List PD → List Blk → Prop
  | nil : PRepB [] [] []
  | snoc {xs : List Value} {l : List PD} {Z : List Blk} {p : PD} {bv : Value} {X : List Blk} (h : PRepB xs l Z) (k : SlB 197 6 p.but.length (flatV p.but) bv X) : PRepB (xs ++ pcl p bv) (l ++ [p]) (Z ++ X)
theorem PRepB.rep {xs : List Value} {l : List PD} {Z L : List Blk} {w0 w : World} (h : PRepB xs l Z) (H : Blks w0 w L) (hs : ∀ x ∈ Z, x ∈ L) : PRep w w0.heap.size xs l := by
  induction h with
  | nil => exact PRep.nil
  | snoc h k ih => exact (ih (fun x hx => hs x (List.mem_append_left _ hx))).snoc (k.owns H (fun x hx => hs x (List.mem_append_right _ hx)))
theorem PRepB.len {xs : List Value} {l : List PD} {Z : List Blk} (h : PRepB xs l Z) : xs.length = l.length * 17 := by
  induction h with
  | nil => rfl
  | snoc _ _ ih => rw [List.length_append, List.length_append, ih, pcl_len, List.length_singleton]; omega
theorem perm_in {B Z X Y : List Blk} : (B ++ (Z ++ X) ++ Y).Perm (B ++ (Z ++ Y ++ X)) := by
  rw [List.append_assoc, List.append_assoc, List.append_assoc]
  exact (List.Perm.append_left _ (List.Perm.append_left _ List.perm_append_comm))
end Go.Proofs.YtgoeiflddikihaaGreatDoor.Ver
end
section
namespace Go.Proofs.YtgoeiflddikihaaGreatDoor.Ver
set_option linter.unusedSimpArgs false
set_option linter.unusedVariables false
open Go.RowKit Go.Proofs.YtgoeiflddikihaaGreatDoorW.PrintWords Go.Proofs.YtgoeiflddikihaaGreatDoor.Mem Go.Proofs.YtgoeiflddikihaaGreatDoor.Ord
theorem sub_mid {Z X Y : List Blk} : (Z ++ X).Sublist (Z ++ Y ++ X) := by rw [List.append_assoc]; exact List.Sublist.append (List.Sublist.refl _) (List.sublist_append_right _ _)
theorem CnAt.rngI {w : World} {base : Nat} {rv : Value} {l : List PD} (h : RngAt w base rv l) : CnAt w base (.rng l) (.iface 238 (.agg #[rv])) := ⟨_, rfl, h⟩
def RngB (l : List PD) : Prop := ∀ p ∈ l, p.but.length ≤ 500000
set_option maxRecDepth 20000 in
set_option maxHeartbeats 8000000 in
theorem ri_ver (l : List PD) (hl : RngOk l) (rv : Value) (u : SV) (hu : SVok u) (w : World) (hr : RngAt w 0 rv l) : Calls Tryz.prog 295 #[.agg #[rv], .iface 197 (.agg u.cells)] w (CnEnd (isectV u (.rng l)) w) := by
  have HV := Lib.hid (fun W (h : CnAt W 0 (.rng l) (.iface 238 (.agg #[rv]))) => vi_any u hu (.rng l) hl _ W h)
  have HR := Lib.hid hr
  obtain ⟨A1, c1, rfl⟩ := hr.val
  have f1 := c_sv_sv
  have HM := Aside0.mk (Blks.start w)
  clear hl hu hr
  dsimp only [SV.cells] at HV ⊢
  go_enter Tryz.func295, Tryz.ntmps295
  go_wp2_with (first | ((with_reducible refine id_box ?_); (refine n_bx (x := .tmp 0) ?_; clear HM; intro b2 wq HM)) | (go_at_call 231; ((with_reducible refine (HV.out _ (CnAt.rngI (RngAt.below HR.out n_bel))).mono ?_); rintro e wc ⟨⟨xv, rfl, hxa⟩, hb⟩; have HXA := Aside0.mk (CnAt.mono hxa (Blks.bel n_own).size); clear hxa; replace HM := n_call hb; clear hb)) | ((with_reducible refine id_alloc ?_); (refine n_al ?_; clear HM; intro b5 wq HM)) | ((with_reducible refine id_store ?_); (refine n_st ?_; clear HM; intro wq HM)) | ((with_reducible refine id_load ?_); refine n_ld ?_))
  go_ret
  exact ⟨⟨_, rfl, HXA.out⟩, HM.out.bel⟩
set_option maxRecDepth 20000 in
set_option maxHeartbeats 16000000 in
theorem ri_rng (l m : List PD) (hl : RngOk l) (hm : RngOk m) (bl : RngB l) (bm : RngB m) (hlen : l.length * m.length ≤ 700000000000) (rv qv : Value) (w : World) (hr : RngAt w 0 rv l) (hq : RngAt w 0 qv m) :
    Calls Tryz.prog 295 #[.agg #[rv], .iface 238 (.agg #[qv])] w (CnEnd (.rng (meetL m [] l)) w) := by
  obtain ⟨A1, c1, rfl⟩ := hr.val
  obtain ⟨A2, c2, rfl⟩ := hq.val
  obtain ⟨xs1, hrow1, hrep1⟩ := hr
  obtain ⟨xs2, hrow2, hrep2⟩ := hq
  have hmx1 := (row_val hrow1).choose_spec.choose_spec.2
  have hmx2 := (row_val hrow2).choose_spec.choose_spec.2
  obtain ⟨N, hN⟩ : ∃ n, l.length = n := ⟨_, rfl⟩
  obtain ⟨M, hM⟩ : ∃ n, m.length = n := ⟨_, rfl⟩
  rw [hN] at hrow1 hmx1 hlen ⊢
  rw [hM] at hrow2 hmx2 hlen ⊢
  have HN := Lib.hid hN
  have HMM := Lib.hid hM
  have HX1 := Lib.hid hmx1
  have HX2 := Lib.hid hmx2
  have HR1 := Lib.hid hrow1
  have HR2 := Lib.hid hrow2
  have HP1 := Lib.hid hrep1
  have HP2 := Lib.hid hrep2
  have HL := Lib.hid hl
  have HMo := Lib.hid hm
  have HBL := Lib.hid bl
  have HBM := Lib.hid bm
  have HLEN := Lib.hid hlen
  have f1 := c_range_sv
  have f2 := c_range_range
  have HM := Aside0.mk (Blks.start w)
  clear hl hm bl bm hlen hrow1 hrow2 hrep1 hrep2 hmx1 hmx2 hN hM
  go_enter Tryz.func295, Tryz.ntmps295
  go_upto_region 7 with (first | ((with_reducible refine id_box ?_); (refine n_bx (x := .tmp 0) ?_; clear HM; intro b2 wq HM)) | ((with_reducible refine id_alloc ?_); (refine n_al ?_; clear HM; intro b6 wq HM)) | ((with_reducible refine id_store ?_); (refine n_st ?_; clear HM; intro wq HM)) | ((with_reducible refine id_load ?_); refine n_ld1 ?_))
  go_wp2_with (first | ((with_reducible refine id_alloc ?_); (refine n_al ?_; clear HM; intro b7 wq HM)) | ((with_reducible refine id_load ?_); refine n_ld1 ?_))
  go_loopw [27] (fun v27 wr => ∃ (k : Nat) (out : List PD) (xs : List Value) (vo : Value) (X Z : List Blk), v27 = .int .i64 (k : Int) ∧ k ≤ N ∧ Hid (meetL m out (l.drop k) = meetL m [] l) ∧ Hid (out.length ≤ k * M) ∧ Hid (PRepB xs out Z) ∧ Hid (SlB 242 17 out.length xs vo X) ∧ Aside0 (Blks w wr ((b7, [vo], 238) :: (b6, [.slice A2 M c2], 238) :: (b2, [.slice A1 N c1], 238) :: (Z ++ X)))) (fun v _ => N - (intOf v).toNat)
  case atStart => exact ⟨0, [], [], .slice none 0 0, [], [], rfl, Nat.zero_le _, Lib.hid rfl, Lib.hid (Nat.zero_le _), Lib.hid PRepB.nil, Lib.hid (SlB.nil _ _), ⟨n_own⟩⟩
  case round =>
    obtain ⟨k, out, xs, vo, X, Z, rfl, hk, HK, HLO, HPR, HSL, HM1⟩ := hrel
    clear HM
    have HM := HM1
    clear HM1
    obtain ⟨Ao, co, rfl, _⟩ := HSL.out.val
    by_cases hlt : k < N
    · have hb' : k < l.length := by have := HN.out; omega
      obtain ⟨g, cc, hg, hat⟩ := row_at (row_keep HR1.out HM.out.bel) hlt
      obtain ⟨bp, hpc, hbp⟩ := HP1.out.get k hb'
      rw [hpc] at hat
      obtain ⟨rfl, _, rfl⟩ := Value.slice.inj hg
      have HE := Lib.hid hat
      have HPO := Lib.hid (HL.out _ (List.getElem_mem hb'))
      have HPB := Lib.hid (HBL.out _ (List.getElem_mem hb'))
      have HBP := Lib.hid hbp
      have hkk := HK.out
      rw [List.drop_eq_getElem_cons hb', meetL] at hkk
      obtain ⟨Ab, cb, rfl, _⟩ := row_val hbp
      clear hat hg hpc hbp
      generalize l[k] = p at HE HPO HPB HBP hkk
      have HKK := Lib.hid hkk
      clear hkk
      dsimp only [pcl] at HE
      go_upto_region 11 with (first | ((with_reducible refine id_index ?_); refine m_index (x := .tmp 25) hlt rfl rfl ?_) | ((with_reducible refine id_load ?_); refine m_loadr (x := .tmp 29) HE.out rfl rfl ?_) | ((with_reducible refine id_alloc ?_); (refine n_al ?_; clear HM; intro b9 wq HM)) | ((with_reducible refine id_store ?_); (refine n_st ?_; clear HM; intro wq HM)))
      go_wp2_with (first | ((with_reducible refine id_load ?_); refine n_ld1 ?_))
      go_loopw [34] (fun v34 wr => ∃ (j : Nat) (ou : List PD) (xs : List Value) (vo : Value) (X Z : List Blk), v34 = .int .i64 (j : Int) ∧ j ≤ M ∧ Hid (meetP p ou (m.drop j) = meetP p out m) ∧ Hid (ou.length ≤ k * M + j) ∧ Hid (PRepB xs ou Z) ∧ Hid (SlB 242 17 ou.length xs vo X) ∧ Aside0 (Blks w wr ((b9, pcl p (.slice Ab p.but.length cb), 242) :: (b7, [vo], 238) :: (b6, [.slice A2 M c2], 238) :: (b2, [.slice (some ⟨g, 0, none⟩) N c1], 238) :: (Z ++ X)))) (fun v _ => M - (intOf v).toNat)
      case atStart => exact ⟨0, out, xs, .slice Ao out.length co, X, Z, rfl, Nat.zero_le _, Lib.hid rfl, HLO, HPR, HSL, ⟨n_own⟩⟩
      case round =>
        clear HM HPR HSL HLO HE HK
        obtain ⟨j, ou, xs, vo, X, Z, rfl, hj, HK, HLO, HPR, HSL, HM⟩ := hrel
        obtain ⟨Ao, co, rfl, _⟩ := HSL.out.val
        by_cases hlj : j < M
        · have hb' : j < m.length := by have := HMM.out; omega
          obtain ⟨g2, cc, hg, hat⟩ := row_at (row_keep HR2.out HM.out.bel) hlj
          obtain ⟨bq, hpc, hbq⟩ := HP2.out.get j hb'
          rw [hpc] at hat
          obtain ⟨rfl, _, rfl⟩ := Value.slice.inj hg
          have HE := Lib.hid hat
          have hqo := HMo.out _ (List.getElem_mem hb')
          have hqb := HBM.out _ (List.getElem_mem hb')
          have hkk := HK.out
          rw [List.drop_eq_getElem_cons hb', meetP] at hkk
          obtain ⟨Aq, cq, rfl, _⟩ := row_val hbq
          clear hat hg hpc
          generalize m[j] = q at HE hqo hqb hbq hkk
          have HBQ := Lib.hid hbq
          have HKK := Lib.hid hkk
          have HBO := Lib.hid (fun W (h1 : VsAt W 0 (.slice Ab p.but.length cb) p.but) (h2 : VsAt W 0 (.slice Aq q.but.length cq) q.but) => both_any p q HPO.out hqo _ _ W h1 h2 (by have := HPB.out; omega))
          have HEM := Lib.hid (fun W bv (h : VsAt W 0 bv (bothD p q).but) => empty_any (bothD p q) (bothD_ok HPO.out hqo) bv W h)
          clear hkk hqo hqb hbq
          dsimp only [pcl] at HE HBO HEM
          go_upto_region 14 with (first | ((with_reducible refine id_index ?_); refine m_index (x := .tmp 32) hlj rfl rfl ?_) | ((with_reducible refine id_load ?_); refine m_loadr (x := .tmp 36) HE.out rfl rfl ?_) | ((with_reducible refine id_alloc ?_); (refine n_al ?_; clear HM; intro b11 wq HM)) | ((with_reducible refine id_store ?_); (refine n_st ?_; clear HM; intro wq HM)))
          go_upto_region 15 with (first | ((with_reducible refine id_load ?_); refine n_ld ?_) | (go_at_call 298; ((with_reducible refine (HBO.out _ (row_keep HBP.out n_bel) (row_keep HBQ.out n_bel)).mono ?_); rintro e wc ⟨⟨bv, rfl, hva⟩, hb⟩; obtain ⟨XI, hxi, hbl⟩ := SlB.of n_own hb hva; obtain ⟨Av, cv, rfl, _⟩ := hxi.val; clear HM hb; have HM := Aside0.mk (hbl.perm (perm_in (B := [_, _, _, _, _]) (Z := Z) (X := X) (Y := XI))); simp only [List.cons_append, List.nil_append] at HM; have HXI := Lib.hid hxi; clear hbl hxi hva)) | ((with_reducible refine id_alloc ?_); (refine n_al ?_; clear HM; intro b12 wq HM)) | ((with_reducible refine id_store ?_); (refine n_st ?_; clear HM; intro wq HM)))
          have hbd : ou.length + 1 ≤ 700000000000 := by
            have h1 := HLO.out
            have h2 := HLEN.out
            have h3 : (k + 1) * M ≤ N * M := Nat.mul_le_mul_right _ hlt
            rw [Nat.succ_mul] at h3
            omega
          have HBD := Lib.hid hbd
          clear hbd
          have hke : keepE ou (bothD p q) = if emptyD (bothD p q) then ou else ou ++ [bothD p q] := rfl
          have hkk := HKK.out
          rw [hke] at hkk
          have HKE := Lib.hid hkk
          clear hke hkk HKK HE
          generalize emptyD (bothD p q) = eb at HEM HKE
          cases eb with
          | true =>
            go_wp2_with (first | ((with_reducible refine id_load ?_); refine n_ld ?_) | (go_at_call 299; ((with_reducible refine (HEM.out _ _ ((HXI.out.owns n_own (fun x hx => by simp [hx])).mono (Nat.zero_le _))).mono ?_); rintro e wc ⟨rfl, hb⟩; replace HM := n_call hb; clear hb)))
            refine ⟨⟨j + 1, ou, xs, _, X, Z, ?_, by omega, Lib.hid HKE.out, Lib.hid (by have := HLO.out; omega), HPR, HSL, ⟨Blks.less n_own (List.Sublist.cons _ (List.Sublist.cons _ (List.Sublist.cons_cons _ (List.Sublist.cons_cons _ (List.Sublist.cons_cons _ (List.Sublist.cons_cons _ sub_mid))))))⟩⟩, ?_⟩
            · rw [wrap_step hlj HX2.out]
            · rw [wrap_step hlj HX2.out]; exact meas_step hlj
          | false =>
            go_wp2_with (first | ((with_reducible refine id_load ?_); refine n_ld1 ?_) | ((with_reducible refine id_load ?_); refine n_ld ?_) | (go_at_call 299; ((with_reducible refine (HEM.out _ _ ((HXI.out.owns n_own (fun x hx => by simp [hx])).mono (Nat.zero_le _))).mono ?_); rintro e wc ⟨rfl, hb⟩; replace HM := n_call hb; clear hb)) | ((with_reducible refine id_slice ?_); (refine n_sl Tryz.underlying236 (by rw [Array.toList_map]; exact slice_one infoPc rfl (by decide) _ rfl) ?_; clear HM; intro bs wq HM)) | (at_builtin; (refine m_append (Y := _ :: _ :: _ :: _ :: _ :: _ :: _ :: (Z ++ XI)) (X := X) n_own rfl HSL.out Tryz.underlying236 infoPc (by decide) rfl rfl rfl (Src.ofSlice _ Tryz.underlying236 _ _ _ (pcl (bothD p q) (.slice Av (bothD p q).but.length cv)) rfl (Blks.addr (rest := []) HM.out n_mem) (pcl_one _ rfl)) (by have := HBD.out; omega) (by have := HBD.out; unfold maxLen; omega) ?_; intro v2 X2 w2 HN hk2; obtain ⟨A2', c2', rfl, _⟩ := hk2.out.val; clear HM; have HM := HN; clear HN; simp only [List.cons_append] at HM; have HA2 := hk2; clear hk2)) | ((with_reducible refine id_store ?_); (refine n_st1 ?_; clear HM; intro wq HM)))
            refine ⟨⟨j + 1, ou ++ [bothD p q], xs ++ pcl (bothD p q) (.slice Av (bothD p q).but.length cv), _, X2, Z ++ XI, ?_, by omega, Lib.hid HKE.out, Lib.hid (by have := HLO.out; rw [List.length_append, List.length_singleton]; omega), Lib.hid (PRepB.snoc HPR.out HXI.out), Lib.hid (by rw [List.length_append, List.length_singleton]; exact HA2.out), ⟨Blks.less n_own (List.Sublist.cons _ (List.Sublist.cons _ (List.Sublist.cons _ (List.Sublist.refl _))))⟩⟩, ?_⟩
            · rw [wrap_step hlj HX2.out]
            · rw [wrap_step hlj HX2.out]; exact meas_step hlj
        · have : j = M := by omega
          subst this
          have hk0 := HK.out
          rw [List.drop_of_length_le (by have := HMM.out; omega), meetP] at hk0
          subst hk0
          go_wp2_with fail
          refine ⟨⟨k + 1, _, xs, _, X, Z, ?_, by omega, HKK, Lib.hid (by have := HLO.out; rw [Nat.succ_mul]; exact this), HPR, HSL, ⟨Blks.drop n_own⟩⟩, ?_⟩
          · rw [wrap_step hlt HX1.out]
          · rw [wrap_step hlt HX1.out]; exact meas_step hlt
    · have : k = N := by omega
      subst this
      have hk0 := HK.out
      rw [List.drop_of_length_le (by have := HN.out; omega), meetL] at hk0
      subst hk0
      go_wp2_with (first | ((with_reducible refine id_load ?_); refine n_ld ?_))
      go_ret
      exact ⟨⟨_, rfl, ⟨_, rfl, ⟨xs, HSL.out.owns HM.out (fun x hx => by simp [hx]), HPR.out.rep HM.out (fun x hx => by simp [hx])⟩⟩⟩, HM.out.bel⟩
end Go.Proofs.YtgoeiflddikihaaGreatDoor.Ver
end
