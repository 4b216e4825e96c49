/- Merged by program out of: SgnP, SgnT, ConN, AwakeN, SemO2, SemO5. -/
import Derived.Test.YtgoeiflddikihaaGreatDoorCsgM38
import Derived.Test.YtgoeiflddikihaaGreatDoorCsgM48
import Derived.Test.YtgoeiflddikihaaGreatDoorCsgM39
import Derived.Test.YtgoeiflddikihaaGreatDoorCsgM32
import Derived.Test.YtgoeiflddikihaaGreatDoorCsgM3
import Derived.Lib.QuietBelow
import Derived.BigQuiet
import Derived.Test.YtgoeiflddikihaaGreatDoorCsgM34
import Derived.Test.YtgoeiflddikihaaGreatDoorCsgM10
section
namespace Go.Proofs.YtgoeiflddikihaaGreatDoor.Ver
set_option linter.unusedSimpArgs false
set_option linter.unusedVariables false
open Go.RowKit Go.Proofs.YtgoeiflddikihaaGreatDoor.Dig Go.Proofs.YtgoeiflddikihaaGreatDoor.PFnIntersectAny Go.Proofs.YtgoeiflddikihaaGreatDoorW.PrintWords Go.Proofs.YtgoeiflddikihaaGreatDoor.Mem Go.Proofs.YtgoeiflddikihaaGreatDoor.Ord
theorem app_list (a b : ByteArray) : (a ++ b).data.toList = a.data.toList ++ b.data.toList := by rw [ByteArray.data_append, Array.toList_append]
theorem split_no (s sep : ByteArray) (hs : s.size ≤ 1000000000000) (h1 : 1 ≤ sep.size) (h2 : sep.size ≤ 1000) {c : UInt8} (hc : sep.toList.head? = some c) (hn : c ∉ s.data.toList) : splitD sep s = [s] := by
  have e1 := split_one s sep hs h1 h2 (no_piece h1 hc hn)
  rw [split_f' s sep hs h1 h2] at e1
  exact Option.some.inj e1
theorem ltrim_id : ∀ {l : Bs}, (32 : UInt8) ∉ l → ltrimL l = l
  | [], _ => rfl
  | c :: l, h => by rw [ltrimL, if_neg (fun e => h (by rw [e]; exact List.mem_cons_self))]
theorem trimD_id {s : ByteArray} (h : (32 : UInt8) ∉ s.data.toList) : trimD s = s := by
  unfold trimD trimL rtrimL
  rw [ltrim_id h, ltrim_id (by rw [List.mem_reverse]; exact h), List.reverse_reverse, mkT_of]
theorem conV_one (s : ByteArray) (b : Bool) (hs : s.size ≤ 1000000000000) (hb : (124 : UInt8) ∉ s.data.toList) (hc : (44 : UInt8) ∉ s.data.toList) (hl : (32 : UInt8) ∉ s.data.toList) : conV s b = (read1D s b).map (meetC (.rng [zPD])) := by
  unfold conV
  rw [split_no s barsT hs (by decide) (by decide) (c := 124) (by rw [ByteArray.toList_eq]; rfl) hb, altsD, altD, split_no s commaT hs (by decide) (by decide) (c := 44) (by rw [ByteArray.toList_eq]; rfl) hc, termsD, trimD_id hl]
  cases read1D s b with
  | none => rfl
  | some c => rfl
theorem sg_only {op l : Bs} (h : ∀ c ∈ op, isSg c = true) (hl : sgL l = []) : sgL (op ++ l) = op ∧ unSgL (op ++ l) = unSgL l := by
  induction op with
  | nil => exact ⟨hl, rfl⟩
  | cons c op ih =>
    obtain ⟨h1, h2⟩ := ih (fun x hx => h x (List.mem_cons_of_mem _ hx))
    have hc := h c List.mem_cons_self
    rw [List.cons_append, sgL, unSgL, hc, if_pos rfl, if_pos rfl, h1, h2]
    exact ⟨rfl, rfl⟩
theorem sg_none {c : UInt8} {l : Bs} (h : isSg c = false) : sgL (c :: l) = [] ∧ unSgL (c :: l) = c :: l := by
  rw [sgL, unSgL, h]; exact ⟨rfl, rfl⟩
theorem plainB_no (s : ByteArray) (hs : s.size ≤ 1000000000000) (h : (45 : UInt8) ∈ s.data.toList ∨ (43 : UInt8) ∈ s.data.toList) : plainB s = false := by
  obtain ⟨b, h1, h2⟩ := plainN_loop s hs s.size 0 (Nat.zero_le _) (by omega) (s.size + 1) (by omega)
  have hf : semver_plainNumbers.f (s.size + 1) s = some b := h1
  have hb : plainB s = b := by unfold plainB; rw [hf]; cases b <;> rfl
  rw [hb]
  cases b with
  | false => rfl
  | true =>
    exfalso
    have key : ∀ c ∈ s.data.toList, okP ((c.toNat : Nat) : Int) := by
      intro c hc
      obtain ⟨i, hi, rfl⟩ := List.getElem_of_mem hc
      have h' : i < s.size := by have := hi; rw [Array.length_toList] at this; exact this
      have := h2 rfl i (Nat.zero_le _) h'
      rwa [bt_list s i hi] at this
    rcases h with h | h
    · exact absurd (key _ h) (by decide)
    · exact absurd (key _ h) (by decide)
theorem sem_strip (t : ByteArray) (ht : t.size ≤ 100000) (hs : (qSemB0 t.data.toList).isSome = true) : stripA t = t := by
  refine stripA_no ?_
  unfold stripQ
  split
  · rename_i h2
    cases h46 : (t[t.size - 2]'(by omega) == 46) with
    | false => rfl
    | true =>
      cases hw : wildC (t[t.size - 1]'(by omega)) with
      | false => rfl
      | true =>
        have hp : (t[t.size - 2]'(by omega)).toNat = 46 := by rw [beq_iff_eq.1 h46]; rfl
        have hc : (t[t.size - 1]'(by omega)).toNat = 120 ∨ (t[t.size - 1]'(by omega)).toNat = 88 ∨ (t[t.size - 1]'(by omega)).toNat = 42 := by
          unfold wildC at hw
          rcases (by simpa using hw : t[t.size - 1]'(by omega) = 120 ∨ t[t.size - 1]'(by omega) = 88 ∨ t[t.size - 1]'(by omega) = 42) with h | h | h
          · exact Or.inl (by rw [h]; rfl)
          · exact Or.inr (Or.inl (by rw [h]; rfl))
          · exact Or.inr (Or.inr (by rw [h]; rfl))
        rw [plainB_no _ (by rw [ByteArray.size_extract]; omega) (wild_at t hs h2 hp hc)]
        rfl
  · rfl
theorem sem_part (t : ByteArray) (ht : t.size ≤ 100000) (hs : (qSemB0 t.data.toList).isSome = true) : partV t = some (svOf t, cntOf t) := by
  obtain ⟨n0, n1, n2, n3⟩ := not_wild hs
  rw [← ByteArray.toList_eq] at n0 n1 n2 n3
  unfold partV
  rw [if_neg n0, if_neg (fun h => h.elim n1 (fun h => h.elim n2 n3)), sem_strip t ht hs]
  exact sv_read t hs
theorem sem_no {t : ByteArray} (hs : (qSemB0 t.data.toList).isSome = true) {x : UInt8} (hx : semC x = false) : x ∉ t.data.toList := fun h => by
  rw [sem_chars hs x h] at hx; cases hx
theorem read1_sign (op : Bs) (hop : ∀ c ∈ op, isSg c = true) (t : ByteArray) (ht : t.size ≤ 90000) (hs : (qSemB0 t.data.toList).isSome = true) (b : Bool) :
    read1D (mkT op ++ t) b = termD (if op = [] ∧ b = true then [94] else op) (svOf t) (cntOf t) := by
  have h0 := sem_pos hs
  have hl : sgL t.data.toList = [] ∧ unSgL t.data.toList = t.data.toList := by
    cases hd : t.data.toList with
    | nil => exact ⟨rfl, rfl⟩
    | cons c l =>
      refine sg_none ?_
      cases h : isSg c with
      | false => rfl
      | true =>
        exfalso
        refine sem_no hs (x := c) ?_ (by rw [hd]; exact List.mem_cons_self)
        rcases sg_yes h with rfl | rfl | rfl | rfl | rfl | rfl <;> decide
  obtain ⟨e1, e2⟩ := sg_only hop hl.1
  unfold read1D
  rw [app_list, mkT_list, e1, e2, hl.2, mkT_of, trimD_id (sem_no hs (by decide)), sem_part t (by omega) hs]
theorem conV_sign (op : Bs) (hop : ∀ c ∈ op, isSg c = true) (t : ByteArray) (ht : t.size ≤ 90000) (hol : op.length ≤ 10) (hs : (qSemB0 t.data.toList).isSome = true) (b : Bool) :
    conV (mkT op ++ t) b = (termD (if op = [] ∧ b = true then [94] else op) (svOf t) (cntOf t)).map (meetC (.rng [zPD])) := by
  rw [← read1_sign op hop t ht hs b]
  have no : ∀ {x : UInt8}, isSg x = false → semC x = false → x ∉ (mkT op ++ t).data.toList := by
    intro x h1 h2 h
    rw [app_list, mkT_list] at h
    rcases List.mem_append.1 h with h | h
    · rw [hop x h] at h1; cases h1
    · exact sem_no hs h2 h
  exact conV_one _ b (by rw [ByteArray.size_append, mkT_size]; omega) (no (by decide) (by decide)) (no (by decide) (by decide)) (no (by decide) (by decide))
theorem bothD_z {q : PD} (h1 : q.hl = false → q.lo = zVd ∧ q.wl = false) (h2 : q.hh = false → q.hi = zVd ∧ q.wh = false) (h3 : keepB { q with but := [] } [] q.but = q.but) : bothD zPD q = q := by
  obtain ⟨lo, hi, hl, hh, wl, wh, but⟩ := q
  simp only at h1 h2
  have e : bothH (bothL zPD ⟨lo, hi, hl, hh, wl, wh, but⟩) ⟨lo, hi, hl, hh, wl, wh, but⟩ = ⟨lo, hi, hl, hh, wl, wh, []⟩ := by
    cases hl <;> cases hh <;> simp [bothH, bothL, zPD] at h1 h2 ⊢ <;> simp [h1, h2]
  unfold bothD
  rw [e]
  show (⟨lo, hi, hl, hh, wl, wh, keepB ⟨lo, hi, hl, hh, wl, wh, []⟩ [] ([] ++ but)⟩ : PD) = _
  rw [List.nil_append]
  congr 1
theorem empty_has {q : PD} (h : emptyD q = true) (hb : q.but = []) (v : SV) : hasD q v = false := by
  obtain ⟨lo, hi, hl, hh, wl, wh, but⟩ := q
  simp only at hb
  subst hb
  have a1 := cmp_v.anti v lo
  have a2 := cmp_v.anti lo v
  have a3 := cmp_v.anti lo hi
  have t1 := cmp_v.trans lo v hi
  have t2 := cmp_v.trans v hi lo
  have t3 := cmp_v.trans hi lo v
  have rf := cmp_v.refl lo
  cases hc : hasD ⟨lo, hi, hl, hh, wl, wh, []⟩ v with
  | false => rfl
  | true =>
    exfalso
    unfold emptyD at h
    simp only [Bool.and_eq_true, Bool.or_eq_true, decide_eq_true_eq, beq_iff_eq] at h
    obtain ⟨h1, h2, h3⟩ := h
    subst h1 h2
    simp only [hasD, lowOk, highOk, butOk, List.all_nil, Bool.and_true, Bool.true_and, Bool.and_eq_true, Bool.not_eq_true', Bool.or_eq_false_iff, decide_eq_false_iff_not, Bool.and_eq_false_iff, beq_eq_false_iff_ne, Bool.not_eq_false'] at hc
    obtain ⟨⟨c1, c2⟩, c3, c4⟩ := hc
    rcases h3 with h3 | ⟨h3, h4⟩
    · have := t1 (by omega) (by omega)
      omega
    · have b1 : cmpV v lo = 0 := by
        have := t2 (by omega) (by omega)
        omega
      have b2 : cmpV v hi = 0 := by
        have := t3 (by omega) (by omega)
        have a4 := cmp_v.anti hi v
        omega
      have w1 : wl = true := c2.elim (fun c => absurd b1 c) id
      have w2 : wh = true := c4.elim (fun c => absurd b2 c) id
      subst w1 w2
      simp [hasD, lowOk, highOk, butOk, rf, h3] at h4
theorem one_has {q : PD} (h1 : q.hl = false → q.lo = zVd ∧ q.wl = false) (h2 : q.hh = false → q.hi = zVd ∧ q.wh = false) (h3 : q.but = []) (v : SV) : (meetC (.rng [zPD]) (.rng [q])).matches v = hasD q v := by
  have e : meetC (.rng [zPD]) (.rng [q]) = .rng (keepE [] (bothD zPD q)) := rfl
  rw [e, bothD_z h1 h2 (by rw [h3]; rfl)]
  show rngD (keepE [] q) v = hasD q v
  unfold keepE
  split
  · rename_i h
    rw [empty_has h h3 v]; rfl
  · simp [rngD]
def signD (op : Bs) (u v : SV) : Option Bool :=
  if op = [] ∨ op = [61] then some (cmpV v u == 0)
  else if op = [33, 61] then some (!(cmpV v u == 0))
  else if op = [62] then some (decide (0 < cmpV v u))
  else if op = [62, 61] ∨ op = [61, 62] then some (decide (0 ≤ cmpV v u))
  else if op = [60] then some (decide (cmpV v u < 0))
  else if op = [60, 61] ∨ op = [61, 60] then some (decide (cmpV v u ≤ 0))
  else if op = [126] ∨ op = [126, 62] then some (decide (0 ≤ cmpV v u) && decide (cmpV v (afterV u 2) < 0))
  else if op = [94] then some (decide (0 ≤ cmpV v u) && decide (cmpV v (afterV u (caretN u 3)) < 0))
  else none
theorem dq (c : Int) : (!(decide (c < 0) || (c == 0 && !true))) = decide (0 ≤ c) ∧ (!(decide (c < 0) || (c == 0 && !false))) = decide (0 < c) ∧ (!(decide (0 < c) || (c == 0 && !true))) = decide (c ≤ 0) ∧ (!(decide (0 < c) || (c == 0 && !false))) = decide (c < 0) := by
  have h : c < 0 ∨ c = 0 ∨ 0 < c := by omega
  rcases h with h | h | h
  · have a : ¬ 0 ≤ c := by omega
    have b : ¬ 0 < c := by omega
    have d : ¬ c = 0 := by omega
    have e : c ≤ 0 := by omega
    simp [h, a, b, d, e]
  · subst h; decide
  · have a : 0 ≤ c := by omega
    have b : ¬ c < 0 := by omega
    have d : ¬ c = 0 := by omega
    have e : ¬ c ≤ 0 := by omega
    simp [h, a, b, d, e]
theorem has_lo (u v : SV) : hasD (loP u) v = decide (0 ≤ cmpV v u) := by
  show ((!(decide (cmpV v u < 0) || (cmpV v u == 0 && !true))) && (true && true)) = _
  rw [(dq _).1, Bool.and_true, Bool.and_true]
theorem has_in2 (u x v : SV) : hasD (inP u x) v = (decide (0 ≤ cmpV v u) && decide (cmpV v x < 0)) := by
  show ((!(decide (cmpV v u < 0) || (cmpV v u == 0 && !true))) && ((!(decide (0 < cmpV v x) || (cmpV v x == 0 && !false))) && true)) = _
  rw [(dq _).1, (dq _).2.2.2, Bool.and_true]
theorem has_hi (u v : SV) : hasD (hiP u) v = decide (cmpV v u < 0) := by
  show (true && ((!(decide (0 < cmpV v u) || (cmpV v u == 0 && !false))) && true)) = _
  rw [(dq _).2.2.2, Bool.and_true, Bool.true_and]
theorem has_hi2 (u v : SV) : hasD { hiP u with wh := true } v = decide (cmpV v u ≤ 0) := by
  show (true && ((!(decide (0 < cmpV v u) || (cmpV v u == 0 && !true))) && true)) = _
  rw [(dq _).2.2.1, Bool.and_true, Bool.true_and]
theorem has_lo2 (u v : SV) : hasD { zPD with lo := u, hl := true } v = decide (0 < cmpV v u) := by
  show ((!(decide (cmpV v u < 0) || (cmpV v u == 0 && !false))) && (true && true)) = _
  rw [(dq _).2.1, Bool.and_true, Bool.and_true]
theorem cmp_zero (u v : SV) : (cmpV u v == 0) = (cmpV v u == 0) := by
  have := cmp_v.anti u v
  rw [Bool.eq_iff_iff]
  simp only [beq_iff_eq]
  omega
theorem but_meet (u v : SV) : (meetC (.rng [zPD]) (.rng [{ zPD with but := [u] }])).matches v = !(cmpV v u == 0) := by
  have e : meetC (.rng [zPD]) (.rng [{ zPD with but := [u] }]) = .rng [{ zPD with but := [u] }] := rfl
  rw [e]
  have e2 : CnD.matches (.rng [{ zPD with but := [u] }]) v = (hasD { zPD with but := [u] } v || false) := rfl
  rw [e2, Bool.or_false, ← cmp_zero u v]
  simp [hasD, lowOk, highOk, butOk, zPD]
theorem sign_holds (op : Bs) (t : ByteArray) (ht : t.size ≤ 90000) (hs : (qSemB0 t.data.toList).isSome = true) (hc : cntOf t = 3) (v : SV) {r : Bool} (hr : signD op (svOf t) v = some r) :
    ∃ c, conV (mkT op ++ t) false = some c ∧ c.matches v = r := by
  have hsg : (∀ c ∈ op, isSg c = true) ∧ op.length ≤ 10 := by
    unfold signD at hr
    repeat' split at hr
    all_goals first | (rename_i h; rcases h with rfl | rfl) | (rename_i h; subst h) | cases hr
    all_goals decide
  have h := conV_sign op hsg.1 t ht hsg.2 hs false
  rw [if_neg (by simp), hc] at h
  rw [h]
  generalize svOf t = u at hr
  have zl : ∀ {x : PD}, x.hl = true → (x.hl = false → x.lo = zVd ∧ x.wl = false) := fun h h2 => by rw [h] at h2; cases h2
  have zh : ∀ {x : PD}, x.hh = true → (x.hh = false → x.hi = zVd ∧ x.wh = false) := fun h h2 => by rw [h] at h2; cases h2
  unfold signD at hr
  unfold termD
  rw [if_neg (by decide)]
  split at hr
  · rename_i ho
    rw [if_pos ho]
    obtain rfl := Option.some.inj hr
    exact ⟨_, rfl, cmp_zero u v⟩
  rename_i o1
  rw [if_neg o1]
  split at hr
  · rename_i ho
    rw [if_pos ho]
    obtain rfl := Option.some.inj hr
    exact ⟨_, rfl, but_meet u v⟩
  rename_i o2
  rw [if_neg o2]
  split at hr
  · rename_i ho
    rw [if_pos ho]
    obtain rfl := Option.some.inj hr
    exact ⟨_, rfl, (one_has (zl rfl) (fun _ => ⟨rfl, rfl⟩) rfl v).trans (has_lo2 u v)⟩
  rename_i o3
  rw [if_neg o3]
  split at hr
  · rename_i ho
    rw [if_pos ho]
    obtain rfl := Option.some.inj hr
    exact ⟨_, rfl, (one_has (zl rfl) (fun _ => ⟨rfl, rfl⟩) rfl v).trans (has_lo u v)⟩
  rename_i o4
  rw [if_neg o4]
  split at hr
  · rename_i ho
    rw [if_pos ho]
    obtain rfl := Option.some.inj hr
    exact ⟨_, rfl, (one_has (fun _ => ⟨rfl, rfl⟩) (zh rfl) rfl v).trans (has_hi u v)⟩
  rename_i o5
  rw [if_neg o5]
  split at hr
  · rename_i ho
    rw [if_pos ho]
    obtain rfl := Option.some.inj hr
    exact ⟨_, rfl, (one_has (fun _ => ⟨rfl, rfl⟩) (zh rfl) rfl v).trans (has_hi2 u v)⟩
  rename_i o6
  rw [if_neg o6]
  split at hr
  · rename_i ho
    rw [if_pos ho]
    obtain rfl := Option.some.inj hr
    exact ⟨_, rfl, (one_has (zl rfl) (zh rfl) rfl v).trans (has_in2 u _ v)⟩
  rename_i o7
  rw [if_neg o7]
  split at hr
  · rename_i ho
    rw [if_pos ho]
    obtain rfl := Option.some.inj hr
    exact ⟨_, rfl, (one_has (zl rfl) (zh rfl) rfl v).trans (has_in2 u _ v)⟩
  · cases hr
theorem termsD_ok {b : Bool} : ∀ {l : List ByteArray} {c d : CnD}, (∀ x ∈ l, x.size ≤ 100000) → c.ok → termsD b c l = some d → d.ok
  | [], c, d, _, h, e => by rw [termsD] at e; obtain rfl := Option.some.inj e; exact h
  | t :: l, c, d, hs, h, e => by
    rw [termsD] at e
    split at e
    · cases e
    · rename_i x hx
      refine termsD_ok (fun y hy => hs y (List.mem_cons_of_mem _ hy)) ?_ e
      have hx1 := (read1D_is (by have := trimD_size t; have := hs t List.mem_cons_self; omega) hx).1
      cases c with
      | ver u => exact (isectV_TB (B := 0) (j := 0) h).1
      | rng l =>
        cases x with
        | ver u => exact (isectV_TB (B := 0) (j := 0) hx1).1
        | rng m => exact meetL_ok hx1 (fun x hx => by cases hx) h
theorem pieces_ok {c : CnD} (h : c.ok) : RngOk (piecesD c) := by
  cases c with
  | ver u => intro x hx; rw [List.mem_singleton.1 hx]; exact ⟨h, h, fun x hx => by cases hx⟩
  | rng l => exact h
theorem altsD_ok {b : Bool} : ∀ {l : List ByteArray} {acc : List PD} {o : Option CnD} {r : List PD × Option CnD}, (∀ x ∈ l, x.size ≤ 100000) → RngOk acc → (∀ c, o = some c → c.ok) → altsD b acc o l = some r → RngOk r.1 ∧ ∀ c, r.2 = some c → c.ok
  | [], acc, o, r, _, h1, h2, e => by rw [altsD] at e; obtain rfl := Option.some.inj e; exact ⟨h1, h2⟩
  | a :: l, acc, o, r, hs, h1, h2, e => by
    rw [altsD] at e
    split at e
    · cases e
    · rename_i c hc
      have hco : c.ok := termsD_ok (fun x hx => Nat.le_trans (splitD_size (by decide) hx) (hs a List.mem_cons_self)) (c := .rng [zPD]) (show RngOk [zPD] from fun x hx => by rw [List.mem_singleton.1 hx]; exact ⟨ok_z, ok_z, fun x hx => by cases hx⟩) hc
      refine altsD_ok (fun y hy => hs y (List.mem_cons_of_mem _ hy)) (fun x hx => ?_) (fun d hd => ?_) e
      · rcases List.mem_append.1 hx with hx | hx
        · exact h1 x hx
        · exact pieces_ok hco x hx
      · obtain rfl := Option.some.inj hd; exact hco
theorem conV_ok {t : ByteArray} {b : Bool} {c : CnD} (ht : t.size ≤ 100000) (h : conV t b = some c) : c.ok := by
  unfold conV at h
  split at h
  · cases h
  · rename_i l o hl
    obtain ⟨h1, h2⟩ := altsD_ok (fun x hx => Nat.le_trans (splitD_size (by decide) hx) ht) (fun x hx => by cases hx) (fun c hc => by cases hc) hl
    obtain rfl := Option.some.inj h
    split
    · cases o with
      | none => exact h1
      | some c => exact h2 c rfl
    · exact h1
end Go.Proofs.YtgoeiflddikihaaGreatDoor.Ver
end
section
namespace Go.Proofs.YtgoeiflddikihaaGreatDoor.Ver
set_option linter.unusedSimpArgs false
set_option linter.unusedVariables false
open Go.RowKit Go.Proofs.YtgoeiflddikihaaGreatDoor.Dig Go.Proofs.YtgoeiflddikihaaGreatDoorW.PrintWords Go.Proofs.YtgoeiflddikihaaGreatDoor.Mem Go.Proofs.YtgoeiflddikihaaGreatDoor.Ord
def vsT (n0 n1 n2 : Int) (pre : ByteArray) : ByteArray := if pre = ⟨#[]⟩ then semT n0 n1 n2 [] ⟨#[]⟩ else semT n0 n1 n2 [] ⟨#[]⟩ ++ (⟨#[45]⟩ ++ pre)
theorem semT_list (n0 n1 n2 : Int) : (semT n0 n1 n2 [] ⟨#[]⟩).data.toList = (decB n0).data.toList ++ 46 :: ((decB n1).data.toList ++ 46 :: (decB n2).data.toList) := by
  unfold semT
  simp [jt, app_list]
theorem dec_digits (n : Nat) : ∀ c ∈ Lib.decDigits n, 48 ≤ c.toNat ∧ c.toNat ≤ 57 := by
  induction n using Nat.strongRecOn with
  | _ n ih =>
    intro c hc
    rw [Lib.decDigits] at hc
    split at hc
    · rename_i h
      rw [List.mem_singleton.1 hc]
      rw [UInt8.toNat_ofNat']
      omega
    · rename_i h
      rcases List.mem_append.1 hc with hc | hc
      · exact ih (n / 10) (by omega) c hc
      · rw [List.mem_singleton.1 hc]
        rw [UInt8.toNat_ofNat']
        omega
theorem dec_no {n : Int} {x : UInt8} (hx : x.toNat < 48 ∨ 57 < x.toNat) : x ∉ (decB n).data.toList := fun h => by
  have := dec_digits n.toNat x h
  omega
theorem cut_app {s : UInt8} : ∀ {a : Bs} (b : Bs), s ∉ a → qCutAt s (a ++ b) = (a ++ (qCutAt s b).1, (qCutAt s b).2)
  | [], b, _ => rfl
  | x :: a, b, h => by
    have hx : x ≠ s := fun e => h (by rw [e]; exact List.mem_cons_self)
    rw [List.cons_append, qCutAt, if_neg hx, cut_app b (fun hr => h (List.mem_cons_of_mem _ hr))]
    rfl
theorem splitOn_app {c : UInt8} : ∀ {a : Bs} (b : Bs), c ∉ a → qSplitOn c (a ++ c :: b) = a :: qSplitOn c b
  | [], b, _ => by rw [List.nil_append, qSplitOn, if_pos rfl]
  | x :: a, b, h => by
    have hx : x ≠ c := fun e => h (by rw [e]; exact List.mem_cons_self)
    rw [List.cons_append, qSplitOn, if_neg hx, splitOn_app b (fun hr => h (List.mem_cons_of_mem _ hr))]
theorem splitOn_no {c : UInt8} : ∀ {a : Bs}, c ∉ a → qSplitOn c a = [a]
  | [], _ => rfl
  | x :: a, h => by
    have hx : x ≠ c := fun e => h (by rw [e]; exact List.mem_cons_self)
    rw [qSplitOn, if_neg hx, splitOn_no (fun hr => h (List.mem_cons_of_mem _ hr))]
theorem numsB_len : ∀ {ps : List Bs} {ns : List Nat}, qNumsB ps = some ns → ns.length = ps.length
  | [], ns, h => by rw [qNumsB] at h; obtain rfl := Option.some.inj h; rfl
  | x :: r, ns, h => by
    rw [qNumsB] at h
    split at h
    · rename_i a b ha hb
      obtain rfl := Option.some.inj h
      rw [List.length_cons, List.length_cons, numsB_len hb]
    · cases h
theorem dec_ne (n : Nat) : Lib.decDigits n ≠ [] := by
  rw [Lib.decDigits]
  split <;> simp
theorem bare_digit {l b : Bs} (hl : l ≠ []) (h : ∀ c ∈ l, 48 ≤ c.toNat ∧ c.toNat ≤ 57) : bare0 (l ++ b) = l ++ b := by
  cases l with
  | nil => exact absurd rfl hl
  | cons c l =>
    have hc : c ≠ 118 := fun e => by have := (h c List.mem_cons_self).2; rw [e] at this; exact absurd this (by decide)
    show (if c = 118 then l ++ b else c :: (l ++ b)) = _
    rw [if_neg hc]; rfl
theorem cnt_three (n0 n1 n2 : Int) (pre : ByteArray) (hs : (qSemB0 (vsT n0 n1 n2 pre).data.toList).isSome = true) : cntOf (vsT n0 n1 n2 pre) = 3 := by
  have key : ∃ tl : Bs, (vsT n0 n1 n2 pre).data.toList = (decB n0).data.toList ++ 46 :: ((decB n1).data.toList ++ 46 :: (decB n2).data.toList) ++ tl ∧ (tl = [] ∨ ∃ r, tl = 45 :: r) := by
    unfold vsT
    split
    · exact ⟨[], by rw [semT_list, List.append_nil], Or.inl rfl⟩
    · exact ⟨45 :: pre.data.toList, by rw [app_list, app_list, semT_list]; rfl, Or.inr ⟨_, rfl⟩⟩
  obtain ⟨tl, e, htl⟩ := key
  obtain ⟨A, hA⟩ : ∃ A : Bs, A = (decB n0).data.toList ++ 46 :: ((decB n1).data.toList ++ 46 :: (decB n2).data.toList) := ⟨_, rfl⟩
  have noA : ∀ {x : UInt8}, (x.toNat < 48 ∨ 57 < x.toNat) → x ≠ 46 → x ∉ A := by
    intro x h1 h2 hx
    rw [hA] at hx
    rcases List.mem_append.1 hx with hx | hx
    · exact dec_no h1 hx
    · rcases List.mem_cons.1 hx with hx | hx
      · exact h2 hx
      · rcases List.mem_append.1 hx with hx | hx
        · exact dec_no h1 hx
        · rcases List.mem_cons.1 hx with hx | hx
          · exact h2 hx
          · exact dec_no h1 hx
  have hb : bare0 (A ++ tl) = A ++ tl := by
    rw [hA, List.append_assoc]
    exact bare_digit (dec_ne _) (dec_digits _)
  have hsp : (qSplitOn 46 A).length = 3 := by
    rw [hA, splitOn_app _ (dec_no (by decide)), splitOn_app _ (dec_no (by decide)), splitOn_no (dec_no (by decide))]; rfl
  rw [← hA] at e
  have c1 := cut_app (s := 43) tl (noA (by decide) (by decide))
  have c2 : ∃ r2, qCutAt 45 (A ++ (qCutAt 43 tl).1) = (A, r2) := by
    rw [cut_app (s := 45) _ (noA (by decide) (by decide))]
    rcases htl with rfl | ⟨r, rfl⟩
    · exact ⟨none, by rw [qCutAt, qCutAt, List.append_nil]⟩
    · refine ⟨some (qCutAt 43 r).1, ?_⟩
      rw [qCutAt, if_neg (by decide)]
      show (A ++ (qCutAt 45 (45 :: (qCutAt 43 r).1)).1, (qCutAt 45 (45 :: (qCutAt 43 r).1)).2) = _
      rw [qCutAt, if_pos rfl, List.append_nil]
  obtain ⟨r2, c2⟩ := c2
  unfold cntOf
  rw [e] at hs ⊢
  unfold qSemB0 at hs ⊢
  rw [hb, c1] at hs ⊢
  simp only at hs ⊢
  cases h1 : qOptB (qCutAt 43 tl).2 with
  | none => rw [h1] at hs; cases hs
  | some mt =>
    rw [h1] at hs
    simp only [c2] at hs ⊢
    cases h2 : qOptB r2 with
    | none => rw [h2] at hs; cases hs
    | some p =>
      rw [h2] at hs
      simp only [hsp] at hs ⊢
      rw [if_neg (by decide)] at hs ⊢
      cases h3 : qNumsB (qSplitOn 46 A) with
      | none => rw [h3] at hs; cases hs
      | some ns =>
        show ns.length = 3
        rw [numsB_len h3, hsp]
end Go.Proofs.YtgoeiflddikihaaGreatDoor.Ver
end
section
namespace Go.Proofs.YtgoeiflddikihaaGreatDoor.Ver
set_option linter.unusedSimpArgs false
set_option linter.unusedVariables false
open Go.Sort (grow)
open Go.RowKit Go.Proofs.YtgoeiflddikihaaGreatDoor.Dig Go.Proofs.YtgoeiflddikihaaGreatDoorW.PrintWords Go.Proofs.YtgoeiflddikihaaGreatDoor.Ord Go.Proofs.YtgoeiflddikihaaGreatDoor.Mem
theorem n_sem_Matches (v : Value) (w : World) : (nilAhead 417 200 v "Matches").run Tryz.prog w = .ok (some false) w := by kernel_rfl
set_option maxRecDepth 20000 in
set_option maxHeartbeats 4000000 in
theorem mat_any (t : ByteArray) (ht : t.size ≤ 96) (c : CnD) (hc : conV t false = some c) (hco : c.ok) (ck : Int) (ct cr : ByteArray) (pv : Value) (k : Int) (vt vr : ByteArray) (hvt : vt.size ≤ 2147483647) (hvr : vr.size ≤ 2147483647) (w : World) (hv : Vars w) :
    Calls Tryz.prog 27 #[.agg #[.int .i64 2, .string t, .int .i64 ck, .string ct, .string cr, pv], .agg #[.int .i64 k, .string vt, .string vr]] w fun e w' => e = .returned (.bool (matchesV c (verV k vt vr))) ∧ Below w.heap.size w w' := by
  have HP := Lib.hid (fun W hb => ic_any t ht c hc ck ct cr pv W (Vars.below (w := w) hv hb))
  have HV := Lib.hid (fun W hb => ver_any k vt vr hvt W (Vars.below (w := w) hv hb))
  have HM := Aside0.mk (Blks.start w)
  have hvo := verV_ok k hvt hvr
  generalize verV k vt vr = vv at HV hvo ⊢
  clear hv hc
  cases c with
  | ver u =>
    have HT := Lib.hid (fun W => sem_m u hco vv hvo W)
    unfold IcEnd GcAt at HP
    generalize matchesV (.ver u) vv = bb at HT ⊢
    have f1 := m_sem_Matches
    have f2 := n_sem_Matches
    clear hco hvo
    obtain ⟨ua, ub, uc, up, um, uo⟩ := u
    dsimp only [SV.cells, Vers.val] at HP HT HV ⊢
    go_enter Tryz.func27, Tryz.ntmps27
    go_wp2_with (first | ((with_reducible refine id_box ?_); (refine n_bx (x := .tmp 0) ?_; clear HM; intro b2 wq HM)) | ((with_reducible refine id_box ?_); (refine n_bx (x := .tmp 1) ?_; clear HM; intro b3 wq HM)) | ((with_reducible refine id_load ?_); refine n_ld ?_) | (go_at_call 65; ((with_reducible refine (HP.out _ n_bel).mono ?_); rintro e wc ⟨⟨xc, rfl, rfl⟩, hb⟩; replace HM := n_call hb; clear hb)))
    have hr := HM.out.range (b := b3) (o := 0) (n := 3) n_mem n_rd
    have k0 := fun d os => cell_regrown (show wc.cell? ⟨b3, 0, none⟩ = some (.int .i64 k) from hr 0 _ rfl) d os
    have k1 := fun d os => cell_regrown (show wc.cell? ⟨b3, 1, none⟩ = some (.string vt) from hr 1 _ rfl) d os
    have k2 := fun d os => cell_regrown (show wc.cell? ⟨b3, 2, none⟩ = some (.string vr) from hr 2 _ rfl) d os
    clear hr
    have HV5 := Lib.hid (fun d os => Calls.regrown_of (HV.out (grow (redrawn wc d) os) (below_trans HM.out.bel (below_regrown wc d os))))
    have HT5 := Lib.hid (fun d os => Calls.regrown_of (HT.out (grow (redrawn wc d) os)))
    refine wp_region_quiet_below (by kernel_rfl) (by kernel_rfl) ?_
    repeat (go_big_quiet_step (first | with_reducible exact HV5.out _ _ | with_reducible exact HT5.out _ _))
    refine wpQuiet_nil ?_
    intro _ hw'
    obtain ⟨⟨dq, osq⟩, hw''⟩ := hw'
    subst hw''
    go_wp2_with fail
    go_ret
    exact ⟨rfl, below_trans HM.out.bel (below_regrown wc _ _)⟩
  | rng l =>
    have HT := Lib.hid (fun W rv (h : RngAt W 0 rv l) => con_m l hco rv vv hvo W h)
    unfold IcEnd GcAt at HP
    generalize matchesV (.rng l) vv = bb at HT ⊢
    have f1 := m_sc_Matches
    have f2 := n_sc_Matches
    clear hco hvo
    dsimp only [Vers.val] at HP HT HV ⊢
    go_enter Tryz.func27, Tryz.ntmps27
    go_wp2_with (first | ((with_reducible refine id_box ?_); (refine n_bx (x := .tmp 0) ?_; clear HM; intro b2 wq HM)) | ((with_reducible refine id_box ?_); (refine n_bx (x := .tmp 1) ?_; clear HM; intro b3 wq HM)) | ((with_reducible refine id_load ?_); refine n_ld ?_) | (go_at_call 65; ((with_reducible refine (HP.out _ n_bel).mono ?_); rintro e wc ⟨⟨xc, rfl, ⟨rv, rfl, hx⟩⟩, hb⟩; have HX := Lib.hid (hx.mono (Nat.zero_le _)); clear hx; replace HM := n_call hb; clear hb)))
    have hr := HM.out.range (b := b3) (o := 0) (n := 3) n_mem n_rd
    have k0 := fun d os => cell_regrown (show wc.cell? ⟨b3, 0, none⟩ = some (.int .i64 k) from hr 0 _ rfl) d os
    have k1 := fun d os => cell_regrown (show wc.cell? ⟨b3, 1, none⟩ = some (.string vt) from hr 1 _ rfl) d os
    have k2 := fun d os => cell_regrown (show wc.cell? ⟨b3, 2, none⟩ = some (.string vr) from hr 2 _ rfl) d os
    clear hr
    have HV5 := Lib.hid (fun d os => Calls.regrown_of (HV.out (grow (redrawn wc d) os) (below_trans HM.out.bel (below_regrown wc d os))))
    have HT5 := Lib.hid (fun d os => Calls.regrown_of (HT.out (grow (redrawn wc d) os) rv (RngAt.below HX.out (below_regrown wc d os))))
    refine wp_region_quiet_below (by kernel_rfl) (by kernel_rfl) ?_
    repeat (go_big_quiet_step (first | with_reducible exact HV5.out _ _ | with_reducible exact HT5.out _ _))
    refine wpQuiet_nil ?_
    intro _ hw'
    obtain ⟨⟨dq, osq⟩, hw''⟩ := hw'
    subst hw''
    go_wp2_with fail
    go_ret
    exact ⟨rfl, below_trans HM.out.bel (below_regrown wc _ _)⟩
end Go.Proofs.YtgoeiflddikihaaGreatDoor.Ver
end
section
namespace Go.Proofs.YtgoeiflddikihaaGreatDoor.Ver
set_option linter.unusedSimpArgs false
open Go.RowKit Go.Proofs.YtgoeiflddikihaaGreatDoor.Dig Go.Proofs.YtgoeiflddikihaaGreatDoorW.PrintWords Go.Proofs.YtgoeiflddikihaaGreatDoor.Mem Go.Sort Go.Proofs.YtgoeiflddikihaaGreatDoor.Srt
abbrev t120N : ByteArray := ⟨#[49, 46, 50, 46, 48]⟩
abbrev t190N : ByteArray := ⟨#[49, 46, 57, 46, 48]⟩
theorem matchesN (w : World) (hv : Vars w) : Calls Tryz.prog 27 #[.agg #[.int .i64 2, .string ⟨#[94, 49, 46, 50, 46, 48]⟩, .int .i64 0, .string ⟨#[]⟩, .string ⟨#[]⟩, .slice none 0 0], .agg #[.int .i64 3, .string t190N, .string ⟨#[]⟩]] w fun e w' => e = .returned (.bool true) ∧ Below w.heap.size w w' := by
  obtain ⟨c, hc, hm⟩ := sign_holds [94] t120N (by decide) (by kernel_rfl) (by kernel_rfl) (svOf t190N) (r := true) (by kernel_rfl)
  have e : mkT [94] ++ t120N = ⟨#[94, 49, 46, 50, 46, 48]⟩ := by kernel_rfl
  rw [e] at hc
  have h := mat_any _ (by decide) c hc (conV_ok (by decide) hc) 0 ⟨#[]⟩ ⟨#[]⟩ (.slice none 0 0) 3 t190N ⟨#[]⟩ (by decide) (by decide) w hv
  have e2 : verV 3 t190N ⟨#[]⟩ = .un (.sem (svOf t190N)) := by kernel_rfl
  rw [e2] at h
  have e3 : matchesV c (.un (.sem (svOf t190N))) = true := hm
  rw [e3] at h
  exact h
set_option maxRecDepth 20000 in
set_option maxHeartbeats 4000000 in
theorem awakeN (w : World) (hv : Vars w) : Calls Tryz.prog 25 #[] w fun e w' => e = .returned (.bool true) ∧ Below w.heap.size w w' := by
  have HO := Lib.hid (fun W hb => of123 W (Vars.below (w := w) hv hb))
  have HS := Lib.hid (fun b W hb h => sort3 b W (Vars.below (w := w) hv hb) h)
  have HT := Lib.hid (fun W hb => matchesN W (Vars.below (w := w) hv hb))
  have HM := Aside0.mk (Blks.start w)
  generalize (⟨#[61]⟩ : ByteArray) ++ semB v123 = cs at HO
  unfold told at HO
  clear hv
  go_enter Tryz.func25, Tryz.ntmps25
  go_wp2_with (first
    | (go_at_call 35; ((with_reducible refine (HO.out _ n_bel).mono ?_); rintro e w1 ⟨rfl, hb⟩; replace HM := n_call hb; clear hb))
    | (go_at_call 37; ((refine (HS.out _ _ n_bel (Blks.range HM.out (b := bq) (o := 0) (n := 9) n_mem n_rd)).mono ?_); rintro e w3 ⟨g3, cap3, cells3, rest3, rfl, hg, hc, hl, hb⟩; unfold Out3 at hl; have HN := Aside0.mk (Blks.add n_own hb hg hc hl); clear HM hb hg hc hl; have HM := HN; clear HN; refine Hid.out ?_))
    | (refine bk_load1 (by rfl) (by rfl) (by rfl) n_own n_mem (by first | exact oneS | exact oneSl | exact oneB | exact oneI) n_rd ?_) | (refine bk_load (by rfl) (by rfl) (by rfl) n_own n_mem (by first | exact rowV | exact rowP | exact rowR | exact rowC | exact rowIV | exact rowTold) n_rd ?_) | (refine bk_alloc (by rfl) (by rfl) n_own (by first | exact zeroTold) ?_; intro bt _ HN; clear HM; have HM := Aside0.mk HN; clear HN) | (refine bk_store1 (by rfl) (by rfl) (by rfl) (by rfl) (by first | exact (rfl : _ = Value.bool _) | exact (rfl : _ = Value.int _ _) | exact (rfl : _ = Value.string _) | exact (rfl : _ = Value.slice _ _ _) | exact (rfl : _ = Value.iface _ _) | exact (rfl : _ = Value.nilIface) | exact (rfl : _ = Value.pointer _)) n_own (by first | exact oneSl | exact oneB) (by rfl) n_mem (by repeat (first | exact Wr.nil | apply Wr.here | apply Wr.skip)) (by repeat (first | exact Up.here | apply Up.skip)) ?_; intro _ HN; clear HM; have HM := Aside0.mk HN; clear HN) | (refine bk_store (by rfl) (by rfl) (by rfl) (by rfl) (by rfl) n_own (by first | exact rowTold) (by rfl) (by simp [Value.oneCell']) n_mem (by repeat (first | exact Wr.nil | apply Wr.here | apply Wr.skip)) (by repeat (first | exact Up.here | apply Up.skip)) ?_; intro _ HN; clear HM; have HM := Aside0.mk HN; clear HN) | (refine bk_slice (by rfl) (by rfl) n_own Tryz.underlying23 (by rw [Array.toList_map]; exact bs_v3) ?_; intro bq _ HN; clear HM; have HM := Aside0.mk HN; clear HN))
  have r8 := HM.out.range (b := bt) (o := 8) (n := 1) n_mem n_rd 0 _ rfl
  have r0 := HM.out.range (b := bt) (o := 0) (n := 1) n_mem n_rd 0 _ rfl
  have r1 := HM.out.range (b := bt) (o := 1) (n := 1) n_mem n_rd 0 _ rfl
  simp only [Nat.add_zero] at r8 r0 r1
  refine Lib.hid ?_
  go_wp2_with (first
    | (go_at_call 27; ((with_reducible refine (HT.out _ n_bel).mono ?_); rintro e w4 ⟨rfl, hb⟩; replace HM := n_call hb; clear hb; refine Hid.out ?_)))
  clear r8 r0 r1
  have r1 := HM.out.range (b := g3) (o := 1) (n := 1) n_mem n_rd 0 _ rfl
  have r7 := HM.out.range (b := g3) (o := 7) (n := 1) n_mem n_rd 0 _ rfl
  simp only [Nat.add_zero] at r1 r7
  refine Lib.hid ?_
  go_wp2_with fail
  go_ret
  exact ⟨rfl, HM.out.bel⟩
end Go.Proofs.YtgoeiflddikihaaGreatDoor.Ver
end
section
namespace Go.Proofs.YtgoeiflddikihaaGreatDoor.Ins
end Go.Proofs.YtgoeiflddikihaaGreatDoor.Ins
namespace Go.Proofs.YtgoeiflddikihaaGreatDoor.Ver
set_option linter.unusedSimpArgs false
set_option linter.unusedVariables false
open Go.Sort (grow)
open Go.RowKit Go.Proofs.YtgoeiflddikihaaGreatDoor.Dig Go.Proofs.YtgoeiflddikihaaGreatDoor.PFnVersion Go.Proofs.YtgoeiflddikihaaGreatDoorW.PrintWords Go.Proofs.YtgoeiflddikihaaGreatDoor.Mem Go.Proofs.YtgoeiflddikihaaGreatDoor.Ord Go.Proofs.YtgoeiflddikihaaGreatDoor.Ins
instance soI1 : ZeroC Tryz.prog 50 #[.int .u64 0, .int .u64 0, .int .u64 0, .int .i64 0, .slice none 0 0, .string ⟨#[]⟩] := ⟨by kernel_rfl⟩
instance soI2 : RowC Tryz.prog 50 6 := ⟨⟨_, Tryz.underlying50, rfl⟩, by kernel_rfl⟩
instance soI3 : ZeroC Tryz.prog 27 #[.int .i64 0, .string ⟨#[]⟩, .string ⟨#[]⟩] := ⟨by kernel_rfl⟩
instance soI4 : OneC Tryz.prog 48 := ⟨⟨_, Tryz.underlying48, rfl⟩, by kernel_rfl⟩
instance soI5 : OneC Tryz.prog 3 := ⟨⟨_, Tryz.underlying3, rfl⟩, by kernel_rfl⟩
instance soI6 : OneC Tryz.prog 46 := ⟨⟨_, Tryz.underlying46, rfl⟩, by kernel_rfl⟩
theorem sem_ver {t : ByteArray} (hs : (qSemB0 t.data.toList).isSome = true) : verV 3 t ⟨#[]⟩ = .un (.sem (svOf t)) := by
  rw [ver3]
  unfold newV
  rw [sv_read t hs]
end Go.Proofs.YtgoeiflddikihaaGreatDoor.Ver
end
section
namespace Go.Proofs.YtgoeiflddikihaaGreatDoor.Ins
end Go.Proofs.YtgoeiflddikihaaGreatDoor.Ins
namespace Go.Proofs.YtgoeiflddikihaaGreatDoor.Ver
set_option linter.unusedSimpArgs false
set_option linter.unusedVariables false
open Go.RowKit Go.Proofs.YtgoeiflddikihaaGreatDoor.Dig Go.Proofs.YtgoeiflddikihaaGreatDoor.PFnVersion Go.Proofs.YtgoeiflddikihaaGreatDoorW.PrintWords Go.Proofs.YtgoeiflddikihaaGreatDoor.Mem Go.Proofs.YtgoeiflddikihaaGreatDoor.Ord Go.Proofs.YtgoeiflddikihaaGreatDoor.Ins
theorem sv_parts {t : ByteArray} {ns : List Nat} {pre mt : List UInt8} (h : qSemB0 t.data.toList = some (ns, pre, mt)) : (svOf t).pre.data.toList = pre ∧ cntOf t = ns.length := by
  unfold svOf cntOf
  rw [h]
  exact ⟨rfl, rfl⟩
theorem sign_mat (op : Bs) (b a : ByteArray) (hb : (qSemB0 b.data.toList).isSome = true) (hbc : cntOf b = 3) (ha : (qSemB0 a.data.toList).isSome = true) (hbs : b.size + op.length ≤ 96) (has : a.size ≤ 2147483647) {r : Bool} (hr : signD op (svOf b) (svOf a) = some r) (w : World) (hv : Vars w) :
    ∀ W, Below w.heap.size w W → Calls Tryz.prog 27 #[.agg #[.int .i64 2, .string (mkT op ++ b), .int .i64 0, .string ⟨#[]⟩, .string ⟨#[]⟩, .slice none 0 0], .agg #[.int .i64 3, .string a, .string ⟨#[]⟩]] W fun e w' => e = .returned (.bool r) ∧ Below W.heap.size W w' := by
  intro W hW
  obtain ⟨c, hc, hm⟩ := sign_holds op b (by omega) hb hbc (svOf a) hr
  have hsz : (mkT op ++ b).size ≤ 96 := by rw [ByteArray.size_append, mkT_size]; omega
  have h := mat_any (mkT op ++ b) hsz c hc (conV_ok (by omega) hc) 0 ⟨#[]⟩ ⟨#[]⟩ (.slice none 0 0) 3 a ⟨#[]⟩ has (by decide) W (hv.below hW)
  rw [sem_ver ha] at h
  have e : matchesV c (.un (.sem (svOf a))) = r := hm
  rw [e] at h
  exact h
end Go.Proofs.YtgoeiflddikihaaGreatDoor.Ver
end
