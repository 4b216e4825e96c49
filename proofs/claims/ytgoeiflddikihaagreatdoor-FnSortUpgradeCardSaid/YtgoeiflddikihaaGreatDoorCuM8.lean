/- Merged by program out of: VId, VCp, VCompare, VVer, VFmt, VStr. -/
import Derived.Test.YtgoeiflddikihaaGreatDoorCuM7
import Derived.Test.YtgoeiflddikihaaGreatDoorCuM5
import Derived.WalkLawsBesides
import Derived.Deep.QuietTactic
import Derived.BigQuiet
import Derived.Lib.ItoaMem
import Derived.WalkKit
import Derived.RegionTactic
import Derived.Deep.RegionLaw
import Derived.Lib.QuietBelow
section
namespace Go.Proofs.YtgoeiflddikihaaGreatDoor.Ver
open Go.RowKit Go.Proofs.YtgoeiflddikihaaGreatDoorW.PrintWords Go.Proofs.YtgoeiflddikihaaGreatDoor.Ord
theorem ba_eq {a b : ByteArray} (h : a.data.toList = b.data.toList) : a = b := ByteArray.ext (Array.ext' h)
theorem len_list (s : ByteArray) : s.data.toList.length = s.size := Array.length_toList
theorem extract_pre (s : ByteArray) (i : Nat) : (s.extract 0 i).data.toList = s.data.toList.take i := by
  rw [ByteArray.data_extract, Array.toList_extract]; simp [List.extract_eq_take_drop]
theorem extract_suf (s : ByteArray) (i : Nat) : (s.extract i s.size).data.toList = s.data.toList.drop i := by
  rw [ByteArray.data_extract, Array.toList_extract]
  simp only [List.extract_eq_take_drop]
  rw [List.take_of_length_le (by rw [List.length_drop, len_list]; exact Nat.le_refl _)]
def firstB (s : ByteArray) : ByteArray := ⟨(firstI s.data.toList).toArray⟩
def restB (s : ByteArray) : ByteArray := ⟨(restI s.data.toList).toArray⟩
def bareB (s : ByteArray) : ByteArray := ⟨(bareZ s.data.toList).toArray⟩
theorem firstI_at {l : List UInt8} {i : Nat} (hi : i < l.length) (h0 : ∀ c ∈ l.take i, c ≠ 46) (hc : l[i] = 46) : firstI l = l.take i ∧ restI l = l.drop (i + 1) := by
  have e : l = l.take i ++ 46 :: l.drop (i + 1) := by rw [← hc, ← List.drop_eq_getElem_cons hi, List.take_append_drop]
  have h1 : ∀ c ∈ l.take i, (c != 46) = true := fun c h => by rw [bne_iff_ne]; exact h0 c h
  refine ⟨?_, ?_⟩
  · unfold firstI
    conv => lhs; rw [e]
    rw [List.takeWhile_append_of_pos h1]; simp
  · unfold restI
    conv => lhs; rw [e]
    rw [List.dropWhile_append_of_pos h1]; simp
theorem firstI_all {l : List UInt8} (h0 : ∀ c ∈ l, c ≠ 46) : firstI l = l ∧ restI l = [] := by
  have h1 : ∀ c ∈ l, (c != 46) = true := fun c h => by rw [bne_iff_ne]; exact h0 c h
  refine ⟨?_, ?_⟩
  · unfold firstI
    have := List.takeWhile_append_of_pos (l₂ := []) h1
    simpa using this
  · unfold restI
    have := List.dropWhile_append_of_pos (l₂ := []) h1
    rw [List.append_nil] at this
    rw [this]; rfl
theorem take_more {l : List UInt8} {i : Nat} (hi : i < l.length) (h0 : ∀ c ∈ l.take i, c ≠ 46) (hc : l[i] ≠ 46) : ∀ c ∈ l.take (i + 1), c ≠ 46 := by
  intro c h
  rw [List.take_succ_eq_append_getElem hi, List.mem_append, List.mem_singleton] at h
  rcases h with h | h
  · exact h0 c h
  · rw [h]; exact hc
theorem byte_int {c : UInt8} {n : Nat} (hn : n < 256) : ((c.toNat : Int) = (n : Int)) ↔ c = UInt8.ofNat n := by
  constructor
  · intro h
    apply UInt8.toNat_inj.1
    rw [UInt8.toNat_ofNat']; omega
  · rintro rfl
    rw [UInt8.toNat_ofNat']; omega
theorem first_tells (s : ByteArray) (hn : s.size ≤ 140737488351232) (d : Nat) : ∀ (k i : Nat), i ≤ s.size → s.size - i = d → d < k → (∀ c ∈ s.data.toList.take i, c ≠ 46) →
    Pfirst.semver_first.l0 k s (i : Int) = some (firstB s, restB s) := by
  induction d with
  | zero =>
    intro k i hi hd hk h0
    cases k with
    | zero => omega
    | succ k =>
      rw [Pfirst.semver_first.l0, if_neg (by omega)]
      rw [List.take_of_length_le (by rw [len_list]; omega)] at h0
      obtain ⟨e1, e2⟩ := firstI_all h0
      unfold firstB restB
      rw [e1, e2]
  | succ d ih =>
    intro k i hi hd hk h0
    have hlt : i < s.size := by omega
    have hll : i < s.data.toList.length := by rw [len_list]; exact hlt
    have hget : s.data.toList[i] = s[i] := rfl
    cases k with
    | zero => omega
    | succ k =>
      have w1 : wrap64 ((i : Int) + 1) = ((i + 1 : Nat) : Int) := by rw [wrap_in (by omega) (by omega)]; omega
      rw [Pfirst.semver_first.l0, if_pos (by omega), if_pos (by omega), bt_nat s i hlt, w1]
      by_cases hc : s[i] = 46
      · rw [if_pos (by rw [hc]; rfl), if_pos (by omega), if_pos (by omega), if_pos (by omega)]
        obtain ⟨e1, e2⟩ := firstI_at hll h0 (hget.trans hc)
        unfold firstB restB
        rw [e1, e2]
        congr 2
        · apply ba_eq; rw [Int.toNat_natCast, extract_pre]
        · apply ba_eq; rw [Int.toNat_natCast, extract_suf]
      · have hne : ¬ ((s[i].toNat : Int) = 46) := fun h => hc ((byte_int (n := 46) (by omega)).1 h)
        rw [if_neg hne]
        exact ih k (i + 1) (by omega) (by omega) (by omega) (take_more hll h0 (fun h => hc (hget.symm.trans h)))
theorem first_any (s : ByteArray) (hn : s.size ≤ 140737488351232) (w : World) :
    Calls Tryz.prog 210 #[.string s] w fun e w' => e = .returned (.tuple #[.string (firstB s), .string (restB s)]) ∧ ∃ n, w' = w.drewN n :=
  (Pfirst.semver_first.calls (s.size + 1) s _ _ w (first_tells s hn s.size (s.size + 1) 0 (by omega) (by omega) (by omega) (by simp))).mono fun _ _ ⟨h, hd⟩ => ⟨h, hd.out⟩
theorem number_tells (s : ByteArray) (hn : s.size ≤ 140737488351232) (d : Nat) : ∀ (k i : Nat), i ≤ s.size → s.size - i = d → d < k →
    Pcompare.semver_number.l0 k s (i : Int) = some (!s.data.toList.isEmpty && (s.data.toList.drop i).all Ord.isDig) := by
  induction d with
  | zero =>
    intro k i hi hd hk
    cases k with
    | zero => omega
    | succ k =>
      rw [Pcompare.semver_number.l0, if_neg (by omega), List.drop_eq_nil_of_le (by rw [len_list]; omega), ByteArray.toList_eq]
      cases s.data.toList <;> rfl
  | succ d ih =>
    intro k i hi hd hk
    have hlt : i < s.size := by omega
    have hne : s.data.toList.isEmpty = false := by
      have := drop_at s i hlt
      cases h : s.data.toList with
      | nil => rw [h] at this; simp at this
      | cons => rfl
    cases k with
    | zero => omega
    | succ k =>
      have w1 : wrap64 ((i : Int) + 1) = ((i + 1 : Nat) : Int) := by rw [wrap_in (by omega) (by omega)]; omega
      rw [Pcompare.semver_number.l0, if_pos (by omega), if_pos (by omega), bt_nat s i hlt, w1, drop_at s i hlt, List.all_cons]
      have e1 := ih k (i + 1) (by omega) (by omega) (by omega)
      unfold Ord.isDig at *
      by_cases h1 : s[i].toNat < 48
      · rw [if_pos (by omega), decide_eq_false (by omega)]; simp
      · rw [if_neg (by omega)]
        by_cases h2 : s[i].toNat ≤ 57
        · rw [if_neg (by omega), e1, decide_eq_true (by omega : 48 ≤ s[i].toNat), decide_eq_true h2]; simp
        · rw [if_pos (by omega), decide_eq_false h2]; simp
theorem number_any (s : ByteArray) (hn : s.size ≤ 140737488351232) (w : World) :
    Calls Tryz.prog 212 #[.string s] w fun e w' => e = .returned (.bool (idNum s.data.toList)) ∧ ∃ n, w' = w.drewN n :=
  (Pcompare.semver_number.calls (s.size + 1) s _ w (number_tells s hn s.size (s.size + 1) 0 (by omega) (by omega) (by omega))).mono fun _ _ ⟨h, hd⟩ => ⟨h, hd.out⟩
theorem bare_tells (d : Nat) : ∀ (s : ByteArray) (k : Nat), s.size = d → d < k → Pcompare.semver_bare.l0 k s = some (bareB s) := by
  induction d with
  | zero =>
    intro s k hd hk
    cases k with
    | zero => omega
    | succ k =>
      rw [Pcompare.semver_bare.l0, if_neg (by omega)]
      congr 1
      apply ba_eq
      have : s.data.toList = [] := List.length_eq_zero_iff.1 (by rw [len_list]; exact hd)
      unfold bareB; rw [this]; rfl
  | succ d ih =>
    intro s k hd hk
    cases k with
    | zero => omega
    | succ k =>
      have e0 := drop_at s 0 (by omega)
      rw [List.drop_zero] at e0
      rw [Pcompare.semver_bare.l0]
      by_cases h1 : 1 < s.size
      · have e1 := drop_at s 1 h1
        rw [if_pos (by omega), if_pos (by omega), show ((0 : Int)) = ((0 : Nat) : Int) from rfl, bt_nat s 0 (by omega)]
        by_cases hc : s[0] = 48
        · rw [if_pos (by rw [hc]; rfl), if_pos (by omega), ih (s.extract 1 s.size) k (by rw [ByteArray.size_extract]; omega) (by omega)]
          congr 1
          apply ba_eq
          unfold bareB
          show bareZ (s.extract 1 s.size).data.toList = bareZ s.data.toList
          rw [extract_suf]
          conv => rhs; rw [e0, e1, hc]
          rw [e1]
          rfl
        · have hne : ¬ ((s[0].toNat : Int) = 48) := fun h => hc ((byte_int (n := 48) (by omega)).1 h)
          rw [if_neg hne]
          congr 1
          apply ba_eq
          unfold bareB
          show _ = bareZ s.data.toList
          rw [e0, e1]
          simp only [bareZ]
          rw [if_neg hc]
      · rw [if_neg (by omega)]
        congr 1
        apply ba_eq
        unfold bareB
        show _ = bareZ s.data.toList
        rw [e0, List.drop_eq_nil_of_le (by rw [len_list]; omega)]
        rfl
theorem bare_any (s : ByteArray) (w : World) :
    Calls Tryz.prog 213 #[.string s] w fun e w' => e = .returned (.string (bareB s)) ∧ ∃ n, w' = w.drewN n :=
  (Pcompare.semver_bare.calls (s.size + 1) s _ w (bare_tells s.size s (s.size + 1) rfl (by omega))).mono fun _ _ ⟨h, hd⟩ => ⟨h, hd.out⟩
end Go.Proofs.YtgoeiflddikihaaGreatDoor.Ver
end
section
namespace Go.Proofs.YtgoeiflddikihaaGreatDoor.Ver
open Go.RowKit Go.Proofs.YtgoeiflddikihaaGreatDoorW.PrintWords Go.Proofs.YtgoeiflddikihaaGreatDoor.Ord
theorem str_cases (x y : ByteArray) : (Op.bytesLess x.toList y.toList = true ∧ (x.toList == y.toList) = false ∧ bytesC x.data.toList y.data.toList = -1) ∨ (Op.bytesLess x.toList y.toList = false ∧ (x.toList == y.toList) = true ∧ bytesC x.data.toList y.data.toList = 0) ∨ (Op.bytesLess x.toList y.toList = false ∧ (x.toList == y.toList) = false ∧ bytesC x.data.toList y.data.toList = 1) := by
  rw [ByteArray.toList_eq, ByteArray.toList_eq, bytesC_form]
  generalize x.data.toList = a
  generalize y.data.toList = b
  by_cases h : Op.bytesLess a b = true
  · refine Or.inl ⟨h, ?_, by rw [if_pos h]⟩
    rw [beq_eq_false_iff_ne]
    rintro rfl
    have := (bytesC_less a a).2 h
    rw [cmp_bytes.refl] at this
    omega
  · have h' : Op.bytesLess a b = false := by simpa using h
    by_cases e : a = b
    · exact Or.inr (Or.inl ⟨h', beq_iff_eq.2 e, by rw [if_neg h, if_pos e]⟩)
    · exact Or.inr (Or.inr ⟨h', beq_eq_false_iff_ne.2 e, by rw [if_neg h, if_neg e]⟩)
theorem num_as {s : ByteArray} {b : Bool} (hn : s.size ≤ 140737488351232) (h : idNum s.data.toList = b) (w : World) : Calls Tryz.prog 212 #[.string s] w fun e w' => e = .returned (.bool b) ∧ Drawn0 w w' :=
  (number_any s hn w).mono fun _ _ ⟨he, hd⟩ => ⟨by rw [he, h], ⟨hd⟩⟩
theorem bare_as (s : ByteArray) (w : World) : Calls Tryz.prog 213 #[.string s] w fun e w' => e = .returned (.string (bareB s)) ∧ Drawn0 w w' :=
  (bare_any s w).mono fun _ _ ⟨he, hd⟩ => ⟨he, ⟨hd⟩⟩
set_option maxHeartbeats 2000000 in
theorem cp_nn (x y : ByteArray) (hx : x.size ≤ 140737488351232) (hy : y.size ≤ 140737488351232) (ha : idNum x.data.toList = true) (hb : idNum y.data.toList = true) (w : World) :
    Calls Tryz.prog 211 #[.string x, .string y] w fun e w' => e = .returned (.int .i64 (idC x.data.toList y.data.toList)) ∧ Drawn0 w w' := by
  have N1 := Lib.hid (num_as hx ha)
  have N2 := Lib.hid (num_as hy hb)
  have B1 := Lib.hid (bare_as x)
  have B2 := Lib.hid (bare_as y)
  have z1 : (bareZ x.data.toList).length = (bareB x).size := (len_list (bareB x))
  have z2 : (bareZ y.data.toList).length = (bareB y).size := (len_list (bareB y))
  have hR := idC_nn ha hb
  rw [z1, z2] at hR
  rw [hR]
  clear hR hx hy
  by_cases hl : (bareB x).size = (bareB y).size
  · rw [if_pos hl]
    show Calls _ _ _ _ fun e w' => e = .returned (.int .i64 (bytesC (bareB x).data.toList (bareB y).data.toList)) ∧ _
    have l1 : (((bareB x).size : Int) != ((bareB y).size : Int)) = false := by rw [hl]; simp
    clear hl ha hb z1 z2
    generalize bareB x = X at *
    generalize bareB y = Y at *
    rcases str_cases X Y with ⟨c1, c2, c3⟩ | ⟨c1, c2, c3⟩ | ⟨c1, c2, c3⟩
    all_goals
      rw [c3]
      clear c3
      go_enter Tryz.func211, Tryz.ntmps211
      go_wp2_with (first
        | (go_at_call 212; ((with_reducible refine (N1.out _).mono ?_); rintro e w1 ⟨rfl, ⟨n1, rfl⟩⟩))
        | (go_at_call 212; ((with_reducible refine (N2.out _).mono ?_); rintro e w1 ⟨rfl, ⟨n2, rfl⟩⟩))
        | (go_at_call 213; ((with_reducible refine (B1.out _).mono ?_); rintro e w1 ⟨rfl, ⟨n3, rfl⟩⟩))
        | (go_at_call 213; ((with_reducible refine (B2.out _).mono ?_); rintro e w1 ⟨rfl, ⟨n4, rfl⟩⟩)))
      go_ret
      exact ⟨rfl, by repeat (first | exact Drawn0.refl _ | apply Drawn0.step)⟩
  · rw [if_neg hl]
    have l1 : (((bareB x).size : Int) != ((bareB y).size : Int)) = true := by rw [bne_iff_ne]; omega
    by_cases hlt : (bareB x).size < (bareB y).size
    · rw [if_pos hlt]
      have l2 : decide ((bareB x).size < (bareB y).size) = true := decide_eq_true hlt
      clear hl ha hb z1 z2 hlt
      generalize bareB x = X at *
      generalize bareB y = Y at *
      go_enter Tryz.func211, Tryz.ntmps211
      go_wp2_with (first
        | (go_at_call 212; ((with_reducible refine (N1.out _).mono ?_); rintro e w1 ⟨rfl, ⟨n1, rfl⟩⟩))
        | (go_at_call 212; ((with_reducible refine (N2.out _).mono ?_); rintro e w1 ⟨rfl, ⟨n2, rfl⟩⟩))
        | (go_at_call 213; ((with_reducible refine (B1.out _).mono ?_); rintro e w1 ⟨rfl, ⟨n3, rfl⟩⟩))
        | (go_at_call 213; ((with_reducible refine (B2.out _).mono ?_); rintro e w1 ⟨rfl, ⟨n4, rfl⟩⟩)))
      go_ret
      exact ⟨rfl, by repeat (first | exact Drawn0.refl _ | apply Drawn0.step)⟩
    · rw [if_neg hlt]
      have l2 : decide ((bareB x).size < (bareB y).size) = false := decide_eq_false hlt
      clear hl ha hb z1 z2 hlt
      generalize bareB x = X at *
      generalize bareB y = Y at *
      go_enter Tryz.func211, Tryz.ntmps211
      go_wp2_with (first
        | (go_at_call 212; ((with_reducible refine (N1.out _).mono ?_); rintro e w1 ⟨rfl, ⟨n1, rfl⟩⟩))
        | (go_at_call 212; ((with_reducible refine (N2.out _).mono ?_); rintro e w1 ⟨rfl, ⟨n2, rfl⟩⟩))
        | (go_at_call 213; ((with_reducible refine (B1.out _).mono ?_); rintro e w1 ⟨rfl, ⟨n3, rfl⟩⟩))
        | (go_at_call 213; ((with_reducible refine (B2.out _).mono ?_); rintro e w1 ⟨rfl, ⟨n4, rfl⟩⟩)))
      go_ret
      exact ⟨rfl, by repeat (first | exact Drawn0.refl _ | apply Drawn0.step)⟩
theorem cp_na (x y : ByteArray) (hx : x.size ≤ 140737488351232) (hy : y.size ≤ 140737488351232) (ha : idNum x.data.toList = true) (hb : idNum y.data.toList = false) (w : World) :
    Calls Tryz.prog 211 #[.string x, .string y] w fun e w' => e = .returned (.int .i64 (idC x.data.toList y.data.toList)) ∧ Drawn0 w w' := by
  have N1 := Lib.hid (num_as hx ha)
  have N2 := Lib.hid (num_as hy hb)
  rw [idC_na ha hb]
  clear ha hb hx hy
  go_enter Tryz.func211, Tryz.ntmps211
  go_wp2_with (first
    | (go_at_call 212; ((with_reducible refine (N1.out _).mono ?_); rintro e w1 ⟨rfl, ⟨n1, rfl⟩⟩))
    | (go_at_call 212; ((with_reducible refine (N2.out _).mono ?_); rintro e w1 ⟨rfl, ⟨n2, rfl⟩⟩)))
  go_ret
  exact ⟨rfl, by repeat (first | exact Drawn0.refl _ | apply Drawn0.step)⟩
theorem cp_an (x y : ByteArray) (hx : x.size ≤ 140737488351232) (hy : y.size ≤ 140737488351232) (ha : idNum x.data.toList = false) (hb : idNum y.data.toList = true) (w : World) :
    Calls Tryz.prog 211 #[.string x, .string y] w fun e w' => e = .returned (.int .i64 (idC x.data.toList y.data.toList)) ∧ Drawn0 w w' := by
  have N1 := Lib.hid (num_as hx ha)
  have N2 := Lib.hid (num_as hy hb)
  rw [idC_an ha hb]
  clear ha hb hx hy
  go_enter Tryz.func211, Tryz.ntmps211
  go_wp2_with (first
    | (go_at_call 212; ((with_reducible refine (N1.out _).mono ?_); rintro e w1 ⟨rfl, ⟨n1, rfl⟩⟩))
    | (go_at_call 212; ((with_reducible refine (N2.out _).mono ?_); rintro e w1 ⟨rfl, ⟨n2, rfl⟩⟩)))
  go_ret
  exact ⟨rfl, by repeat (first | exact Drawn0.refl _ | apply Drawn0.step)⟩
theorem cp_aa (x y : ByteArray) (hx : x.size ≤ 140737488351232) (hy : y.size ≤ 140737488351232) (ha : idNum x.data.toList = false) (hb : idNum y.data.toList = false) (w : World) :
    Calls Tryz.prog 211 #[.string x, .string y] w fun e w' => e = .returned (.int .i64 (idC x.data.toList y.data.toList)) ∧ Drawn0 w w' := by
  have N1 := Lib.hid (num_as hx ha)
  have N2 := Lib.hid (num_as hy hb)
  rw [idC_aa ha hb]
  clear ha hb hx hy
  rcases str_cases x y with ⟨c1, c2, c3⟩ | ⟨c1, c2, c3⟩ | ⟨c1, c2, c3⟩
  all_goals
    rw [c3]
    clear c3
    go_enter Tryz.func211, Tryz.ntmps211
    go_wp2_with (first
      | (go_at_call 212; ((with_reducible refine (N1.out _).mono ?_); rintro e w1 ⟨rfl, ⟨n1, rfl⟩⟩))
      | (go_at_call 212; ((with_reducible refine (N2.out _).mono ?_); rintro e w1 ⟨rfl, ⟨n2, rfl⟩⟩)))
    go_ret
    exact ⟨rfl, by repeat (first | exact Drawn0.refl _ | apply Drawn0.step)⟩
theorem compare_any (x y : ByteArray) (hx : x.size ≤ 140737488351232) (hy : y.size ≤ 140737488351232) (w : World) :
    Calls Tryz.prog 211 #[.string x, .string y] w fun e w' => e = .returned (.int .i64 (idC x.data.toList y.data.toList)) ∧ Drawn0 w w' := by
  cases ha : idNum x.data.toList <;> cases hb : idNum y.data.toList
  · exact cp_aa x y hx hy ha hb w
  · exact cp_an x y hx hy ha hb w
  · exact cp_na x y hx hy ha hb w
  · exact cp_nn x y hx hy ha hb w
end Go.Proofs.YtgoeiflddikihaaGreatDoor.Ver
end
section
namespace Go.Proofs.YtgoeiflddikihaaGreatDoor.Ver
open Go.RowKit Go.Proofs.YtgoeiflddikihaaGreatDoorW.PrintWords Go.Proofs.YtgoeiflddikihaaGreatDoor.Ord
theorem cmpV_1l {v u : SV} (h : v.major < u.major) : cmpV v u = -1 := thenC_ne (intC_lt h) (by omega)
theorem cmpV_1g {v u : SV} (h : u.major < v.major) : cmpV v u = 1 := thenC_ne (intC_gt h) (by omega)
theorem intC_self (a : Int) : intC a a = 0 := cmp_int.refl a
theorem cmpV_2l {v u : SV} (h1 : v.major = u.major) (h : v.minor < u.minor) : cmpV v u = -1 := thenC_go (by unfold onC; rw [h1, intC_self]) (thenC_ne (intC_lt h) (by omega))
theorem cmpV_2g {v u : SV} (h1 : v.major = u.major) (h : u.minor < v.minor) : cmpV v u = 1 := thenC_go (by unfold onC; rw [h1, intC_self]) (thenC_ne (intC_gt h) (by omega))
theorem cmpV_3l {v u : SV} (h1 : v.major = u.major) (h2 : v.minor = u.minor) (h : v.patch < u.patch) : cmpV v u = -1 := thenC_go (by unfold onC; rw [h1, intC_self]) (thenC_go (by unfold onC; rw [h2, intC_self]) (thenC_ne (intC_lt h) (by omega)))
theorem cmpV_3g {v u : SV} (h1 : v.major = u.major) (h2 : v.minor = u.minor) (h : u.patch < v.patch) : cmpV v u = 1 := thenC_go (by unfold onC; rw [h1, intC_self]) (thenC_go (by unfold onC; rw [h2, intC_self]) (thenC_ne (intC_gt h) (by omega)))
theorem cmpV_4 {v u : SV} (h1 : v.major = u.major) (h2 : v.minor = u.minor) (h3 : v.patch = u.patch) : cmpV v u = preC v.pre.data.toList u.pre.data.toList := thenC_go (by unfold onC; rw [h1, intC_self]) (thenC_go (by unfold onC; rw [h2, intC_self]) (thenC_go (by unfold onC; rw [h3, intC_self]) rfl))
def NumTell (va vb vc ua ub uc r p : Int) : Prop := (va < ua → r = -1) ∧ (ua < va → r = 1) ∧ (va = ua → vb < ub → r = -1) ∧ (va = ua → ub < vb → r = 1) ∧ (va = ua → vb = ub → vc < uc → r = -1) ∧ (va = ua → vb = ub → uc < vc → r = 1) ∧ (va = ua → vb = ub → vc = uc → r = p)
theorem numTell (v u : SV) : NumTell v.major v.minor v.patch u.major u.minor u.patch (cmpV v u) (preC v.pre.data.toList u.pre.data.toList) :=
  ⟨cmpV_1l, cmpV_1g, cmpV_2l, cmpV_2g, cmpV_3l, cmpV_3g, cmpV_4⟩
theorem pre_cases (x y : ByteArray) : ((x.toList == y.toList) = true ∧ preC x.data.toList y.data.toList = 0) ∨ ((x.toList == y.toList) = false ∧ x.toList.isEmpty = true ∧ preC x.data.toList y.data.toList = 1) ∨ ((x.toList == y.toList) = false ∧ x.toList.isEmpty = false ∧ y.toList.isEmpty = true ∧ preC x.data.toList y.data.toList = -1) ∨ ((x.toList == y.toList) = false ∧ x.toList.isEmpty = false ∧ y.toList.isEmpty = false ∧ preC x.data.toList y.data.toList = listC idC (parts x.data.toList) (parts y.data.toList)) := by
  rw [ByteArray.toList_eq, ByteArray.toList_eq]
  generalize x.data.toList = a
  generalize y.data.toList = b
  by_cases e : a = b
  · subst e; exact Or.inl ⟨beq_self_eq_true _, preC_same _⟩
  · have he : (a == b) = false := beq_eq_false_iff_ne.2 e
    cases a with
    | nil => exact Or.inr (Or.inl ⟨he, rfl, preC_left (fun h => e h.symm)⟩)
    | cons c r =>
      cases b with
      | nil => exact Or.inr (Or.inr (Or.inl ⟨he, rfl, rfl, preC_right (by simp)⟩))
      | cons d t => exact Or.inr (Or.inr (Or.inr ⟨he, rfl, rfl, preC_both (by simp) (by simp)⟩))
theorem ab_cases (A B : ByteArray) : (A.toList.isEmpty = true ∧ B.toList.isEmpty = true ∧ (A.toList == B.toList) = true ∧ listC idC (parts A.data.toList) (parts B.data.toList) = 0) ∨ (A.toList.isEmpty = true ∧ B.toList.isEmpty = false ∧ (A.toList == B.toList) = false ∧ listC idC (parts A.data.toList) (parts B.data.toList) = -1) ∨ (A.toList.isEmpty = false ∧ B.toList.isEmpty = true ∧ (A.toList == B.toList) = false ∧ listC idC (parts A.data.toList) (parts B.data.toList) = 1) ∨ (A.toList.isEmpty = false ∧ B.toList.isEmpty = false ∧
    ((idC (firstB A).data.toList (firstB B).data.toList = 0 → listC idC (parts A.data.toList) (parts B.data.toList) = listC idC (parts (restB A).data.toList) (parts (restB B).data.toList)) ∧ (idC (firstB A).data.toList (firstB B).data.toList ≠ 0 → listC idC (parts A.data.toList) (parts B.data.toList) = idC (firstB A).data.toList (firstB B).data.toList))) := by
  rw [ByteArray.toList_eq, ByteArray.toList_eq]
  unfold firstB restB
  dsimp only
  generalize A.data.toList = a
  generalize B.data.toList = b
  cases a with
  | nil =>
    cases b with
    | nil => exact Or.inl ⟨rfl, rfl, rfl, partsC_none⟩
    | cons d t => exact Or.inr (Or.inl ⟨rfl, rfl, rfl, partsC_less (by simp)⟩)
  | cons c r =>
    cases b with
    | nil => exact Or.inr (Or.inr (Or.inl ⟨rfl, rfl, rfl, partsC_more (by simp)⟩))
    | cons d t => exact Or.inr (Or.inr (Or.inr ⟨rfl, rfl, partsC_step (by simp) (by simp), partsC_stop (by simp) (by simp)⟩))
theorem firstB_le (A : ByteArray) : (firstB A).size ≤ A.size := by
  rw [← len_list, ← len_list]
  show (firstI A.data.toList).length ≤ _
  exact (List.takeWhile_sublist _).length_le
theorem restB_le (A : ByteArray) : (restB A).size ≤ A.size := by
  rw [← len_list, ← len_list]
  show (restI A.data.toList).length ≤ _
  unfold restI
  rw [List.length_drop]
  have := (List.dropWhile_sublist (l := A.data.toList) (· != 46)).length_le
  omega
theorem restB_lt {A : ByteArray} (h : A.toList.isEmpty = false) : (restB A).size < A.size := by
  rw [← len_list, ← len_list]
  refine restI_lt ?_
  rintro e
  rw [ByteArray.toList_eq, e] at h
  cases h
set_option maxRecDepth 20000 in
set_option maxHeartbeats 4000000 in
theorem cmp_short (v u : SV) (hq : ((v.pre.toList == u.pre.toList) = true ∧ preC v.pre.data.toList u.pre.data.toList = 0) ∨ ((v.pre.toList == u.pre.toList) = false ∧ v.pre.toList.isEmpty = true ∧ preC v.pre.data.toList u.pre.data.toList = 1) ∨ ((v.pre.toList == u.pre.toList) = false ∧ v.pre.toList.isEmpty = false ∧ u.pre.toList.isEmpty = true ∧ preC v.pre.data.toList u.pre.data.toList = -1)) (w : World) :
    Calls Tryz.prog 209 #[.agg v.cells, .agg u.cells] w fun e w' => e = .returned (.int .i64 (cmpV v u)) ∧ Below w.heap.size w w' := by
  have HT := Lib.hid (numTell v u)
  generalize cmpV v u = r at *
  obtain ⟨va, vb, vc, vp, vm, vo⟩ := v
  obtain ⟨ua, ub, uc, up, um, uo⟩ := u
  dsimp only at HT hq
  have i0 : ∀ W, (Instr.index 306 (.agg #[.int .u64 va, .int .u64 ua, .int .u64 vb, .int .u64 ub, .int .u64 vc, .int .u64 uc]) (.int .i64 0)).run Tryz.prog W = .ok (.agg #[.int .u64 va, .int .u64 ua]) W := fun _ => by kernel_rfl
  have i1 : ∀ W, (Instr.index 306 (.agg #[.int .u64 va, .int .u64 ua, .int .u64 vb, .int .u64 ub, .int .u64 vc, .int .u64 uc]) (.int .i64 1)).run Tryz.prog W = .ok (.agg #[.int .u64 vb, .int .u64 ub]) W := fun _ => by kernel_rfl
  have i2 : ∀ W, (Instr.index 306 (.agg #[.int .u64 va, .int .u64 ua, .int .u64 vb, .int .u64 ub, .int .u64 vc, .int .u64 uc]) (.int .i64 2)).run Tryz.prog W = .ok (.agg #[.int .u64 vc, .int .u64 uc]) W := fun _ => by kernel_rfl
  have HB := Aside0.mk (Below.refl w.heap.size w)
  rcases hq with ⟨q1, hp⟩ | ⟨q1, q2, hp⟩ | ⟨q1, q2, q3, hp⟩
  all_goals
    rw [hp] at HT
    clear hp
    dsimp only [SV.cells]
    go_enter Tryz.func209, Tryz.ntmps209
    go_wp2_with fail
    go_loopw [28] (fun v28 wr => ∃ k : Int, v28 = .int .i64 k ∧ (0 ≤ k ∧ k ≤ 3) ∧ Hid (1 ≤ k → va = ua) ∧ Hid (2 ≤ k → vb = ub) ∧ Hid (3 ≤ k → vc = uc) ∧ Aside0 (Below w.heap.size w wr) ∧ Aside0 (wr.heap[w.heap.size]? = some (bSV va vb vc vp vm vo)) ∧ Aside0 (wr.heap[w.heap.size + 1]? = some (bSV ua ub uc up um uo)) ∧ Aside0 (w.heap.size + 2 ≤ wr.heap.size)) (fun v28 _ => (3 - intOf v28).toNat)
    case atStart =>
      refine ⟨0, rfl, by omega, Lib.hid (by omega), Lib.hid (by omega), Lib.hid (by omega), ⟨below_alloc (below_alloc HB.out _) _⟩, ⟨blk_alloc (alloc_at w _) _⟩, ⟨?_⟩, ⟨by rw [alloc_size, alloc_size]; omega⟩⟩
      have := alloc_at (w.alloc (bSV va vb vc vp vm vo)) (bSV ua ub uc up um uo)
      rw [alloc_size] at this
      exact this
    case round =>
      obtain ⟨k, rfl, hk, H1, H2, H3, HW, HV, HU, HZ⟩ := hrel
      have HSZ := Lib.hid HW.out.size
      obtain rfl | rfl | rfl | rfl : k = 0 ∨ k = 1 ∨ k = 2 ∨ k = 3 := by omega
      · rcases Int.lt_trichotomy va ua with h | h | h
        · have d1 : decide (va < ua) = true := decide_eq_true h
          obtain rfl := (HT.out.1 h)
          clear h
          go_wp2_with fail
          go_ret
          exact ⟨rfl, by repeat (first | exact HW.out | apply below_alloc | apply pw_below_drewN | (refine below_set ?_ HSZ.out))⟩
        · have d1 : decide (va < ua) = false := decide_eq_false (by omega)
          have d2 : decide (ua < va) = false := decide_eq_false (by omega)
          have HE := Lib.hid h
          clear h
          go_wp2_with fail
          go_roundw
          case rel => exact ⟨1, by first | rfl | go_num, by omega, Lib.hid (fun _ => HE.out), Lib.hid (fun _ => absurd ‹_› (by omega)), Lib.hid (fun _ => absurd ‹_› (by omega)), ⟨by repeat (first | exact HW.out | apply below_alloc | apply pw_below_drewN | (refine below_set ?_ HSZ.out))⟩, ⟨by repeat (first | exact HV.out | apply blk_alloc | refine blk_far ?_ (by show w.heap.size ≠ wr.heap.size; have := HZ.out; omega) _)⟩, ⟨by repeat (first | exact HU.out | apply blk_alloc | refine blk_far ?_ (by show w.heap.size + 1 ≠ wr.heap.size; have := HZ.out; omega) _)⟩, ⟨by have := HZ.out; first | (simp; omega) | omega⟩⟩
          case measure => simp [intOf]
        · have d1 : decide (va < ua) = false := decide_eq_false (by omega)
          have d2 : decide (ua < va) = true := decide_eq_true h
          obtain rfl := (HT.out.2.1 h)
          clear h
          go_wp2_with fail
          go_ret
          exact ⟨rfl, by repeat (first | exact HW.out | apply below_alloc | apply pw_below_drewN | (refine below_set ?_ HSZ.out))⟩
      · rcases Int.lt_trichotomy vb ub with h | h | h
        · have d1 : decide (vb < ub) = true := decide_eq_true h
          obtain rfl := (HT.out.2.2.1 (H1.out (by omega)) h)
          clear h
          go_wp2_with fail
          go_ret
          exact ⟨rfl, by repeat (first | exact HW.out | apply below_alloc | apply pw_below_drewN | (refine below_set ?_ HSZ.out))⟩
        · have d1 : decide (vb < ub) = false := decide_eq_false (by omega)
          have d2 : decide (ub < vb) = false := decide_eq_false (by omega)
          have HE := Lib.hid h
          clear h
          go_wp2_with fail
          go_roundw
          case rel => exact ⟨2, by first | rfl | go_num, by omega, Lib.hid (fun _ => H1.out (by omega)), Lib.hid (fun _ => HE.out), Lib.hid (fun _ => absurd ‹_› (by omega)), ⟨by repeat (first | exact HW.out | apply below_alloc | apply pw_below_drewN | (refine below_set ?_ HSZ.out))⟩, ⟨by repeat (first | exact HV.out | apply blk_alloc | refine blk_far ?_ (by show w.heap.size ≠ wr.heap.size; have := HZ.out; omega) _)⟩, ⟨by repeat (first | exact HU.out | apply blk_alloc | refine blk_far ?_ (by show w.heap.size + 1 ≠ wr.heap.size; have := HZ.out; omega) _)⟩, ⟨by have := HZ.out; first | (simp; omega) | omega⟩⟩
          case measure => simp [intOf]
        · have d1 : decide (vb < ub) = false := decide_eq_false (by omega)
          have d2 : decide (ub < vb) = true := decide_eq_true h
          obtain rfl := (HT.out.2.2.2.1 (H1.out (by omega)) h)
          clear h
          go_wp2_with fail
          go_ret
          exact ⟨rfl, by repeat (first | exact HW.out | apply below_alloc | apply pw_below_drewN | (refine below_set ?_ HSZ.out))⟩
      · rcases Int.lt_trichotomy vc uc with h | h | h
        · have d1 : decide (vc < uc) = true := decide_eq_true h
          obtain rfl := (HT.out.2.2.2.2.1 (H1.out (by omega)) (H2.out (by omega)) h)
          clear h
          go_wp2_with fail
          go_ret
          exact ⟨rfl, by repeat (first | exact HW.out | apply below_alloc | apply pw_below_drewN | (refine below_set ?_ HSZ.out))⟩
        · have d1 : decide (vc < uc) = false := decide_eq_false (by omega)
          have d2 : decide (uc < vc) = false := decide_eq_false (by omega)
          have HE := Lib.hid h
          clear h
          go_wp2_with fail
          go_roundw
          case rel => exact ⟨3, by first | rfl | go_num, by omega, Lib.hid (fun _ => H1.out (by omega)), Lib.hid (fun _ => H2.out (by omega)), Lib.hid (fun _ => HE.out), ⟨by repeat (first | exact HW.out | apply below_alloc | apply pw_below_drewN | (refine below_set ?_ HSZ.out))⟩, ⟨by repeat (first | exact HV.out | apply blk_alloc | refine blk_far ?_ (by show w.heap.size ≠ wr.heap.size; have := HZ.out; omega) _)⟩, ⟨by repeat (first | exact HU.out | apply blk_alloc | refine blk_far ?_ (by show w.heap.size + 1 ≠ wr.heap.size; have := HZ.out; omega) _)⟩, ⟨by have := HZ.out; first | (simp; omega) | omega⟩⟩
          case measure => simp [intOf]
        · have d1 : decide (vc < uc) = false := decide_eq_false (by omega)
          have d2 : decide (uc < vc) = true := decide_eq_true h
          obtain rfl := (HT.out.2.2.2.2.2.1 (H1.out (by omega)) (H2.out (by omega)) h)
          clear h
          go_wp2_with fail
          go_ret
          exact ⟨rfl, by repeat (first | exact HW.out | apply below_alloc | apply pw_below_drewN | (refine below_set ?_ HSZ.out))⟩
      · have hr := HT.out.2.2.2.2.2.2 (H1.out (by omega)) (H2.out (by omega)) (H3.out (by omega))
        subst hr
        have c3 := blk_cell HV.out 3
        have e3 := blk_cell HU.out 3
        go_wp2_with fail
        go_ret
        exact ⟨rfl, by repeat (first | exact HW.out | apply below_alloc | apply pw_below_drewN | (refine below_set ?_ HSZ.out))⟩
set_option maxRecDepth 20000 in
set_option maxHeartbeats 4000000 in
theorem cmp_long (v u : SV) (q1 : (v.pre.toList == u.pre.toList) = false) (q2 : v.pre.toList.isEmpty = false) (q3 : u.pre.toList.isEmpty = false) (hp : preC v.pre.data.toList u.pre.data.toList = listC idC (parts v.pre.data.toList) (parts u.pre.data.toList)) (hv : v.pre.size ≤ 140737488351232) (hu : u.pre.size ≤ 140737488351232) (w : World) :
    Calls Tryz.prog 209 #[.agg v.cells, .agg u.cells] w fun e w' => e = .returned (.int .i64 (cmpV v u)) ∧ Below w.heap.size w w' := by
  have HT := Lib.hid (numTell v u)
  generalize cmpV v u = r at *
  obtain ⟨va, vb, vc, vp, vm, vo⟩ := v
  obtain ⟨ua, ub, uc, up, um, uo⟩ := u
  dsimp only at HT hv hu q1 q2 q3 hp
  have i0 : ∀ W, (Instr.index 306 (.agg #[.int .u64 va, .int .u64 ua, .int .u64 vb, .int .u64 ub, .int .u64 vc, .int .u64 uc]) (.int .i64 0)).run Tryz.prog W = .ok (.agg #[.int .u64 va, .int .u64 ua]) W := fun _ => by kernel_rfl
  have i1 : ∀ W, (Instr.index 306 (.agg #[.int .u64 va, .int .u64 ua, .int .u64 vb, .int .u64 ub, .int .u64 vc, .int .u64 uc]) (.int .i64 1)).run Tryz.prog W = .ok (.agg #[.int .u64 vb, .int .u64 ub]) W := fun _ => by kernel_rfl
  have i2 : ∀ W, (Instr.index 306 (.agg #[.int .u64 va, .int .u64 ua, .int .u64 vb, .int .u64 ub, .int .u64 vc, .int .u64 uc]) (.int .i64 2)).run Tryz.prog W = .ok (.agg #[.int .u64 vc, .int .u64 uc]) W := fun _ => by kernel_rfl
  have HB := Aside0.mk (Below.refl w.heap.size w)
  · skip
    rw [hp] at HT
    clear hp
    dsimp only [SV.cells]
    go_enter Tryz.func209, Tryz.ntmps209
    go_wp2_with fail
    go_loopw [28] (fun v28 wr => ∃ k : Int, v28 = .int .i64 k ∧ (0 ≤ k ∧ k ≤ 3) ∧ Hid (1 ≤ k → va = ua) ∧ Hid (2 ≤ k → vb = ub) ∧ Hid (3 ≤ k → vc = uc) ∧ Aside0 (Below w.heap.size w wr) ∧ Aside0 (wr.heap[w.heap.size]? = some (bSV va vb vc vp vm vo)) ∧ Aside0 (wr.heap[w.heap.size + 1]? = some (bSV ua ub uc up um uo)) ∧ Aside0 (w.heap.size + 2 ≤ wr.heap.size)) (fun v28 _ => (3 - intOf v28).toNat)
    case atStart =>
      refine ⟨0, rfl, by omega, Lib.hid (by omega), Lib.hid (by omega), Lib.hid (by omega), ⟨below_alloc (below_alloc HB.out _) _⟩, ⟨blk_alloc (alloc_at w _) _⟩, ⟨?_⟩, ⟨by rw [alloc_size, alloc_size]; omega⟩⟩
      have := alloc_at (w.alloc (bSV va vb vc vp vm vo)) (bSV ua ub uc up um uo)
      rw [alloc_size] at this
      exact this
    case round =>
      obtain ⟨k, rfl, hk, H1, H2, H3, HW, HV, HU, HZ⟩ := hrel
      have HSZ := Lib.hid HW.out.size
      obtain rfl | rfl | rfl | rfl : k = 0 ∨ k = 1 ∨ k = 2 ∨ k = 3 := by omega
      · rcases Int.lt_trichotomy va ua with h | h | h
        · have d1 : decide (va < ua) = true := decide_eq_true h
          obtain rfl := (HT.out.1 h)
          clear h
          go_wp2_with fail
          go_ret
          exact ⟨rfl, by repeat (first | exact HW.out | apply below_alloc | apply pw_below_drewN | (refine below_set ?_ HSZ.out))⟩
        · have d1 : decide (va < ua) = false := decide_eq_false (by omega)
          have d2 : decide (ua < va) = false := decide_eq_false (by omega)
          have HE := Lib.hid h
          clear h
          go_wp2_with fail
          go_roundw
          case rel => exact ⟨1, by first | rfl | go_num, by omega, Lib.hid (fun _ => HE.out), Lib.hid (fun _ => absurd ‹_› (by omega)), Lib.hid (fun _ => absurd ‹_› (by omega)), ⟨by repeat (first | exact HW.out | apply below_alloc | apply pw_below_drewN | (refine below_set ?_ HSZ.out))⟩, ⟨by repeat (first | exact HV.out | apply blk_alloc | refine blk_far ?_ (by show w.heap.size ≠ wr.heap.size; have := HZ.out; omega) _)⟩, ⟨by repeat (first | exact HU.out | apply blk_alloc | refine blk_far ?_ (by show w.heap.size + 1 ≠ wr.heap.size; have := HZ.out; omega) _)⟩, ⟨by have := HZ.out; first | (simp; omega) | omega⟩⟩
          case measure => simp [intOf]
        · have d1 : decide (va < ua) = false := decide_eq_false (by omega)
          have d2 : decide (ua < va) = true := decide_eq_true h
          obtain rfl := (HT.out.2.1 h)
          clear h
          go_wp2_with fail
          go_ret
          exact ⟨rfl, by repeat (first | exact HW.out | apply below_alloc | apply pw_below_drewN | (refine below_set ?_ HSZ.out))⟩
      · rcases Int.lt_trichotomy vb ub with h | h | h
        · have d1 : decide (vb < ub) = true := decide_eq_true h
          obtain rfl := (HT.out.2.2.1 (H1.out (by omega)) h)
          clear h
          go_wp2_with fail
          go_ret
          exact ⟨rfl, by repeat (first | exact HW.out | apply below_alloc | apply pw_below_drewN | (refine below_set ?_ HSZ.out))⟩
        · have d1 : decide (vb < ub) = false := decide_eq_false (by omega)
          have d2 : decide (ub < vb) = false := decide_eq_false (by omega)
          have HE := Lib.hid h
          clear h
          go_wp2_with fail
          go_roundw
          case rel => exact ⟨2, by first | rfl | go_num, by omega, Lib.hid (fun _ => H1.out (by omega)), Lib.hid (fun _ => HE.out), Lib.hid (fun _ => absurd ‹_› (by omega)), ⟨by repeat (first | exact HW.out | apply below_alloc | apply pw_below_drewN | (refine below_set ?_ HSZ.out))⟩, ⟨by repeat (first | exact HV.out | apply blk_alloc | refine blk_far ?_ (by show w.heap.size ≠ wr.heap.size; have := HZ.out; omega) _)⟩, ⟨by repeat (first | exact HU.out | apply blk_alloc | refine blk_far ?_ (by show w.heap.size + 1 ≠ wr.heap.size; have := HZ.out; omega) _)⟩, ⟨by have := HZ.out; first | (simp; omega) | omega⟩⟩
          case measure => simp [intOf]
        · have d1 : decide (vb < ub) = false := decide_eq_false (by omega)
          have d2 : decide (ub < vb) = true := decide_eq_true h
          obtain rfl := (HT.out.2.2.2.1 (H1.out (by omega)) h)
          clear h
          go_wp2_with fail
          go_ret
          exact ⟨rfl, by repeat (first | exact HW.out | apply below_alloc | apply pw_below_drewN | (refine below_set ?_ HSZ.out))⟩
      · rcases Int.lt_trichotomy vc uc with h | h | h
        · have d1 : decide (vc < uc) = true := decide_eq_true h
          obtain rfl := (HT.out.2.2.2.2.1 (H1.out (by omega)) (H2.out (by omega)) h)
          clear h
          go_wp2_with fail
          go_ret
          exact ⟨rfl, by repeat (first | exact HW.out | apply below_alloc | apply pw_below_drewN | (refine below_set ?_ HSZ.out))⟩
        · have d1 : decide (vc < uc) = false := decide_eq_false (by omega)
          have d2 : decide (uc < vc) = false := decide_eq_false (by omega)
          have HE := Lib.hid h
          clear h
          go_wp2_with fail
          go_roundw
          case rel => exact ⟨3, by first | rfl | go_num, by omega, Lib.hid (fun _ => H1.out (by omega)), Lib.hid (fun _ => H2.out (by omega)), Lib.hid (fun _ => HE.out), ⟨by repeat (first | exact HW.out | apply below_alloc | apply pw_below_drewN | (refine below_set ?_ HSZ.out))⟩, ⟨by repeat (first | exact HV.out | apply blk_alloc | refine blk_far ?_ (by show w.heap.size ≠ wr.heap.size; have := HZ.out; omega) _)⟩, ⟨by repeat (first | exact HU.out | apply blk_alloc | refine blk_far ?_ (by show w.heap.size + 1 ≠ wr.heap.size; have := HZ.out; omega) _)⟩, ⟨by have := HZ.out; first | (simp; omega) | omega⟩⟩
          case measure => simp [intOf]
        · have d1 : decide (vc < uc) = false := decide_eq_false (by omega)
          have d2 : decide (uc < vc) = true := decide_eq_true h
          obtain rfl := (HT.out.2.2.2.2.2.1 (H1.out (by omega)) (H2.out (by omega)) h)
          clear h
          go_wp2_with fail
          go_ret
          exact ⟨rfl, by repeat (first | exact HW.out | apply below_alloc | apply pw_below_drewN | (refine below_set ?_ HSZ.out))⟩
      · have HR := Lib.hid (HT.out.2.2.2.2.2.2 (H1.out (by omega)) (H2.out (by omega)) (H3.out (by omega)))
        have c3 := blk_cell HV.out 3
        have e3 := blk_cell HU.out 3
        go_wp2_with fail
        go_quiet (fail)
        go_wp2_with fail
        rename_i nq
        clear c3 e3 q1 q2 q3
        go_loopw [7, 8] (fun v7 v8 wx => ∃ (A B : ByteArray), v7 = .string A ∧ v8 = .string B ∧ Hid (r = listC idC (parts A.data.toList) (parts B.data.toList)) ∧ A.size ≤ 140737488351232 ∧ B.size ≤ 140737488351232 ∧ Aside0 (Below w.heap.size w wx)) (fun v7 _ _ => match v7 with | .string a => a.size | _ => 0)
        case atStart => exact ⟨vp, up, rfl, rfl, HR, hv, hu, ⟨by repeat (first | exact HW.out | apply below_alloc | apply pw_below_drewN)⟩⟩
        case round =>
          obtain ⟨A, B, rfl, rfl, HA, hA, hB, HX⟩ := hrel
          rcases ab_cases A B with ⟨a1, a2, e1, hr⟩ | ⟨a1, a2, e1, hr⟩ | ⟨a1, a2, e1, hr⟩ | ⟨a1, a2, hr⟩
          · have hr := HA.out.trans hr
            subst hr
            go_wp2_with fail
            go_ret
            exact ⟨rfl, by repeat (first | exact HX.out | apply below_alloc | apply pw_below_drewN)⟩
          · have hr := HA.out.trans hr
            subst hr
            go_wp2_with fail
            go_ret
            exact ⟨rfl, by repeat (first | exact HX.out | apply below_alloc | apply pw_below_drewN)⟩
          · have hr := HA.out.trans hr
            subst hr
            go_wp2_with fail
            go_ret
            exact ⟨rfl, by repeat (first | exact HX.out | apply below_alloc | apply pw_below_drewN)⟩
          · have F1 := Lib.hid (fun W => first_any A hA W)
            have F2 := Lib.hid (fun W => first_any B hB W)
            have C := Lib.hid (fun W => compare_any (firstB A) (firstB B) (by have := firstB_le A; omega) (by have := firstB_le B; omega) W)
            have m1 := restB_lt a1
            have m2 := restB_le B
            have HL := Lib.hid hr
            clear hr
            by_cases hc : idC (firstB A).data.toList (firstB B).data.toList = 0
            · have h2 := HA.out.trans (HL.out.1 hc)
              have HA2 := Lib.hid h2
              rw [hc] at C
              clear h2 hc HA HL
              generalize firstB A = fa at *
              generalize firstB B = fb at *
              generalize restB A = ra at *
              generalize restB B = rb at *
              have HM := Lib.hid m1
              have hra : ra.size ≤ 140737488351232 := by omega
              have hrb : rb.size ≤ 140737488351232 := by omega
              clear m1 m2
              go_wp2_with (first
                | (go_at_call 210; ((with_reducible refine (F1.out _).mono ?_); rintro e w1 ⟨rfl, n1, rfl⟩))
                | (go_at_call 210; ((with_reducible refine (F2.out _).mono ?_); rintro e w1 ⟨rfl, n2, rfl⟩))
                | (go_at_call 211; ((with_reducible refine (C.out _).mono ?_); rintro e w1 ⟨rfl, ⟨n3, rfl⟩⟩)))
              go_roundw
              case rel => exact ⟨ra, rb, rfl, rfl, HA2, hra, hrb, ⟨by repeat (first | exact HX.out | apply below_alloc | apply pw_below_drewN)⟩⟩
              case measure => exact HM.out
            · have h2 := HA.out.trans (HL.out.2 hc)
              rw [← h2] at C hc
              have d1 : (r != 0) = true := bne_iff_ne.2 hc
              clear h2 hc HA HL m1 m2
              generalize firstB A = fa at *
              generalize firstB B = fb at *
              generalize restB A = ra at *
              generalize restB B = rb at *
              go_wp2_with (first
                | (go_at_call 210; ((with_reducible refine (F1.out _).mono ?_); rintro e w1 ⟨rfl, n1, rfl⟩))
                | (go_at_call 210; ((with_reducible refine (F2.out _).mono ?_); rintro e w1 ⟨rfl, n2, rfl⟩))
                | (go_at_call 211; ((with_reducible refine (C.out _).mono ?_); rintro e w1 ⟨rfl, ⟨n3, rfl⟩⟩)))
              go_ret
              exact ⟨rfl, by repeat (first | exact HX.out | apply below_alloc | apply pw_below_drewN)⟩
theorem cmp_any (v u : SV) (hv : v.pre.size ≤ 140737488351232) (hu : u.pre.size ≤ 140737488351232) (w : World) :
    Calls Tryz.prog 209 #[.agg v.cells, .agg u.cells] w fun e w' => e = .returned (.int .i64 (cmpV v u)) ∧ Below w.heap.size w w' := by
  rcases pre_cases v.pre u.pre with h | h | h | ⟨q1, q2, q3, hp⟩
  · exact cmp_short v u (Or.inl h) w
  · exact cmp_short v u (Or.inr (Or.inl h)) w
  · exact cmp_short v u (Or.inr (Or.inr h)) w
  · exact cmp_long v u q1 q2 q3 hp hv hu w
end Go.Proofs.YtgoeiflddikihaaGreatDoor.Ver
end
section
namespace Go.Proofs.YtgoeiflddikihaaGreatDoor.Ver
open Go.RowKit Go.Proofs.YtgoeiflddikihaaGreatDoor.Dig Go.Proofs.YtgoeiflddikihaaGreatDoorW.PrintWords
theorem below_trans {a b c : World} (h : Below a.heap.size a b) (k : Below b.heap.size b c) : Below a.heap.size a c := h.trans (k.mono h.size)
theorem nums_len : ∀ (m : Nat) (acc ns : List Nat) (l r : List UInt8), nums m acc l = some (ns, r) → 1 ≤ ns.length
  | 0, _, _, _, _, h => by simp [nums] at h
  | m + 1, acc, ns, l, r, h => by
    rw [nums] at h
    split at h
    · cases h
    · split at h
      · exact nums_len m _ _ _ _ h
      · simp at h; rw [← h.1]; simp
theorem readV_pos {s : ByteArray} {v : SV} {k : Nat} (h : readV s = some (v, k)) : 1 ≤ k := by
  unfold readV at h
  split at h
  · cases h
  · rename_i ns r hn
    split at h
    · cases h
    · split at h
      · cases h
      · split at h
        · injection h with h; injection h with _ h2; rw [← h2]; exact nums_len _ _ _ _ _ hn
        · cases h
def newV (s : ByteArray) : Unp := match readV s with
  | none => .plain s
  | some (v, _) => .sem v
def NewEnd (s : ByteArray) (w : World) (e : Ending) (w' : World) : Prop :=
  Below w.heap.size w w' ∧ match readV s with
    | none => ∃ a, e = .returned (.tuple #[.agg zSV, .iface 260 (.pointer (some a))])
    | some (v, _) => e = .returned (.tuple #[.agg v.cells, .nilIface])
theorem new_any' (s : ByteArray) (hs : s.size ≤ 2147483647) (w : World) (hv : Vars w) : Calls Tryz.prog 129 #[.string s] w (NewEnd s w) := by
  have HR := Lib.hid (fun W hb => read_any s hs W (Vars.below (w := w) hv hb))
  have HB := Aside0.mk (Below.refl w.heap.size w)
  clear hv
  cases hq : readV s with
  | none =>
    have HQ := Lib.hid hq
    clear hq
    go_enter Tryz.func129, Tryz.ntmps129
    go_wp2_with (first
      | (go_at_call 143; ((with_reducible refine (HR.out _ (by repeat (first | exact HB.out | apply below_alloc | apply pw_below_drewN))).mono ?_); rintro e w5 ⟨hb, hm⟩; rw [HQ.out] at hm; obtain ⟨a, rfl⟩ := hm; refine Hid.out ?_)))
    have hk := blk_below (alloc_at w (.cells zSV 197)) hb
    have HB5 := Aside0.mk (below_trans (by repeat (first | exact HB.out | apply below_alloc | apply pw_below_drewN)) hb)
    have hk2 := blk_alloc hk (.cells zSV 197)
    have r0 := blk_cell hk2 0
    have t0 := blk_frozen hk2 0
    have r1 := blk_cell hk2 1
    have t1 := blk_frozen hk2 1
    have r2 := blk_cell hk2 2
    have t2 := blk_frozen hk2 2
    have r3 := blk_cell hk2 3
    have t3 := blk_frozen hk2 3
    have r4 := blk_cell hk2 4
    have t4 := blk_frozen hk2 4
    have r5 := blk_cell hk2 5
    have t5 := blk_frozen hk2 5
    clear hk hk2 hb
    refine Lib.hid ?_
    go_wp2_with fail
    refine bodyPost_ret (v := .tuple #[.agg zSV, .iface 260 (.pointer (some a))]) (by simp [results, Tryz.results129, go_sem, *]) rfl ⟨?_, by rw [HQ.out]; exact ⟨a, rfl⟩⟩
    exact ((((((below_alloc HB5.out _).setCell (Nat.le_refl _) _).setCell (Nat.le_refl _) _).setCell (Nat.le_refl _) _).setCell (Nat.le_refl _) _).setCell (Nat.le_refl _) _).setCell (Nat.le_refl _) _
  | some p =>
    obtain ⟨v, k⟩ := p
    have hk0 := readV_pos hq
    have HQ := Lib.hid hq
    clear hq
    go_enter Tryz.func129, Tryz.ntmps129
    go_wp2_with (first
      | (go_at_call 143; ((with_reducible refine (HR.out _ (by repeat (first | exact HB.out | apply below_alloc | apply pw_below_drewN))).mono ?_); rintro e w5 ⟨hb, hm⟩; rw [HQ.out] at hm; obtain rfl := hm; refine Hid.out ?_)))
    obtain ⟨va, vb, vc, vp, vm, vo⟩ := v
    have hk := blk_below (alloc_at w (.cells zSV 197)) hb
    have HB5 := Aside0.mk (below_trans (by repeat (first | exact HB.out | apply below_alloc | apply pw_below_drewN)) hb)
    have hk2 := blk_alloc hk (.cells #[.int .u64 va, .int .u64 vb, .int .u64 vc, .string vp, .string vm, .string vo] 197)
    have r0 := blk_cell hk2 0
    have t0 := blk_frozen hk2 0
    have r1 := blk_cell hk2 1
    have t1 := blk_frozen hk2 1
    have r2 := blk_cell hk2 2
    have t2 := blk_frozen hk2 2
    have r3 := blk_cell hk2 3
    have t3 := blk_frozen hk2 3
    have r4 := blk_cell hk2 4
    have t4 := blk_frozen hk2 4
    have r5 := blk_cell hk2 5
    have t5 := blk_frozen hk2 5
    have q0 : ((k : Int) == 0) = false := by rw [beq_eq_false_iff_ne]; omega
    clear hk hk2 hb hk0
    refine Lib.hid ?_
    dsimp only [SV.cells]
    go_wp2_with fail
    refine bodyPost_ret (v := .tuple #[.agg #[.int .u64 va, .int .u64 vb, .int .u64 vc, .string vp, .string vm, .string vo], .nilIface]) (by simp [results, Tryz.results129, go_sem, *]) rfl ⟨?_, by rw [HQ.out]; rfl⟩
    exact ((((((below_alloc HB5.out _).setCell (Nat.le_refl _) _).setCell (Nat.le_refl _) _).setCell (Nat.le_refl _) _).setCell (Nat.le_refl _) _).setCell (Nat.le_refl _) _).setCell (Nat.le_refl _) _
theorem newV_any (s : ByteArray) (hs : s.size ≤ 2147483647) (w : World) (hv : Vars w) : Calls Tryz.prog 122 #[.string s] w fun e w' => e = .returned (newV s).val ∧ Below w.heap.size w w' := by
  have HR := Lib.hid (fun W hb => new_any' s hs W (Vars.below (w := w) hv hb))
  have HB := Aside0.mk (Below.refl w.heap.size w)
  clear hv
  cases hq : readV s with
  | none =>
    have hN : newV s = .plain s := by unfold newV; rw [hq]
    rw [hN]
    have HQ := Lib.hid hq
    clear hq hN
    go_enter Tryz.func122, Tryz.ntmps122
    go_wp2_with (first
      | (go_at_call 129; ((with_reducible refine (HR.out _ (by repeat (first | exact HB.out | apply below_alloc | apply pw_below_drewN))).mono ?_); rintro e w5 ⟨hb, hm⟩; rw [HQ.out] at hm; obtain ⟨a, rfl⟩ := hm; have HB5 := Aside0.mk (below_trans (by repeat (first | exact HB.out | apply below_alloc | apply pw_below_drewN)) hb); clear hb)))
    go_ret
    exact ⟨rfl, by repeat (first | exact HB5.out | apply below_alloc | apply pw_below_drewN)⟩
  | some p =>
    obtain ⟨v, k⟩ := p
    have hN : newV s = .sem v := by unfold newV; rw [hq]
    rw [hN]
    have HQ := Lib.hid hq
    clear hq hN
    go_enter Tryz.func122, Tryz.ntmps122
    go_wp2_with (first
      | (go_at_call 129; ((with_reducible refine (HR.out _ (by repeat (first | exact HB.out | apply below_alloc | apply pw_below_drewN))).mono ?_); rintro e w5 ⟨hb, hm⟩; rw [HQ.out] at hm; obtain rfl := hm; have HB5 := Aside0.mk (below_trans (by repeat (first | exact HB.out | apply below_alloc | apply pw_below_drewN)) hb); clear hb; dsimp only [SV.cells])))
    go_ret
    exact ⟨rfl, by repeat (first | exact HB5.out | apply below_alloc | apply pw_below_drewN)⟩
def unpV (k : Int) (t : ByteArray) : Option Unp := if k = 1 then some (.branch t false) else if k = 2 then some (.branch t true) else if k = 3 then some (newV t) else none
def verV (k : Int) (t r : ByteArray) : Vers := match unpV k t with
  | none => .rev t
  | some u => if r = ⟨#[]⟩ then .un u else .pair u r
def unpVal : Option Unp → Value
  | none => .nilIface
  | some u => u.val
theorem unp_any (k : Int) (t r : ByteArray) (ht : t.size ≤ 2147483647) (w : World) (hv : Vars w) : Calls Tryz.prog 98 #[.agg #[.int .i64 k, .string t, .string r]] w fun e w' => e = .returned (unpVal (unpV k t)) ∧ Below w.heap.size w w' := by
  have HR := Lib.hid (fun W hb => newV_any t ht W (Vars.below (w := w) hv hb))
  have HB := Aside0.mk (Below.refl w.heap.size w)
  clear hv
  by_cases h1 : k = 1
  · subst h1
    go_enter Tryz.func98, Tryz.ntmps98
    go_wp2
    go_ret
    exact ⟨rfl, by repeat (first | exact HB.out | apply below_alloc | apply pw_below_drewN)⟩
  by_cases h2 : k = 2
  · subst h2
    go_enter Tryz.func98, Tryz.ntmps98
    go_wp2
    go_ret
    exact ⟨rfl, by repeat (first | exact HB.out | apply below_alloc | apply pw_below_drewN)⟩
  by_cases h3 : k = 3
  · subst h3
    go_enter Tryz.func98, Tryz.ntmps98
    go_wp2_with (first
      | (go_at_call 122; ((with_reducible refine (HR.out _ (by repeat (first | exact HB.out | apply below_alloc | apply pw_below_drewN))).mono ?_); rintro e w5 ⟨rfl, hb⟩; have HB5 := Aside0.mk (below_trans (by repeat (first | exact HB.out | apply below_alloc | apply pw_below_drewN)) hb); clear hb)))
    go_ret
    exact ⟨rfl, by repeat (first | exact HB5.out | apply below_alloc | apply pw_below_drewN)⟩
  · have q1 : (k == 1) = false := beq_eq_false_iff_ne.2 h1
    have q2 : (k == 2) = false := beq_eq_false_iff_ne.2 h2
    have q3 : (k == 3) = false := beq_eq_false_iff_ne.2 h3
    have hN : unpV k t = none := by unfold unpV; rw [if_neg h1, if_neg h2, if_neg h3]
    rw [hN]
    clear h1 h2 h3 hN
    go_enter Tryz.func98, Tryz.ntmps98
    go_wp2
    go_ret
    exact ⟨rfl, by repeat (first | exact HB.out | apply below_alloc | apply pw_below_drewN)⟩
theorem size_pos {r : ByteArray} (h : r ≠ ⟨#[]⟩) : 0 < r.size := by
  rcases Nat.eq_zero_or_pos r.size with h0 | h0
  · exact absurd (ByteArray.ext (Array.ext' (list_nil h0))) h
  · exact h0
theorem ver_any (k : Int) (t r : ByteArray) (ht : t.size ≤ 2147483647) (w : World) (hv : Vars w) : Calls Tryz.prog 66 #[.agg #[.int .i64 k, .string t, .string r]] w fun e w' => e = .returned (verV k t r).val ∧ Below w.heap.size w w' := by
  have HR := Lib.hid (fun W hb => unp_any k t r ht W (Vars.below (w := w) hv hb))
  have HB := Aside0.mk (Below.refl w.heap.size w)
  clear hv
  have mb := m_branch_Pair
  have mp := m_plain_Pair
  have ms := m_sem_Pair
  cases hq : unpV k t with
  | none =>
    have hN : verV k t r = .rev t := by unfold verV; rw [hq]
    rw [hN]
    have HQ := Lib.hid hq
    clear hq hN
    go_enter Tryz.func66, Tryz.ntmps66
    go_wp2_with (first
      | (go_at_call 98; ((with_reducible refine (HR.out _ (by repeat (first | exact HB.out | apply below_alloc | apply pw_below_drewN))).mono ?_); rintro e w5 ⟨rfl, hb⟩; refine Hid.out ?_)))
    have hk := blk_below (alloc_at w (.cells #[.int .i64 k, .string t, .string r] 27)) hb
    have HB5 := Aside0.mk (below_trans (by repeat (first | exact HB.out | apply below_alloc | apply pw_below_drewN)) hb)
    have r0 := blk_cell hk 0
    have r1 := blk_cell hk 1
    have r2 := blk_cell hk 2
    clear hk hb
    rw [HQ.out]
    dsimp only [unpVal, Unp.val, Unp.tid, Unp.inner, SV.cells]
    refine Lib.hid ?_
    go_wp2
    go_ret
    exact ⟨rfl, by repeat (first | exact HB5.out | apply below_alloc | apply pw_below_drewN)⟩
  | some u =>
    by_cases hr : r = ⟨#[]⟩
    · have hN : verV k t r = .un u := by unfold verV; rw [hq]; simp only; rw [if_pos hr]
      rw [hN]
      have hem : r.toList.isEmpty = true := isEmpty_true (by rw [hr]; rfl)
      have HQ := Lib.hid hq
      clear hq hN hr
      rcases u with ⟨n, d⟩ | n | v
      · go_enter Tryz.func66, Tryz.ntmps66
        go_wp2_with (first
          | (go_at_call 98; ((with_reducible refine (HR.out _ (by repeat (first | exact HB.out | apply below_alloc | apply pw_below_drewN))).mono ?_); rintro e w5 ⟨rfl, hb⟩; refine Hid.out ?_)))
        have hk := blk_below (alloc_at w (.cells #[.int .i64 k, .string t, .string r] 27)) hb
        have HB5 := Aside0.mk (below_trans (by repeat (first | exact HB.out | apply below_alloc | apply pw_below_drewN)) hb)
        have r0 := blk_cell hk 0
        have r1 := blk_cell hk 1
        have r2 := blk_cell hk 2
        clear hk hb
        rw [HQ.out]
        dsimp only [unpVal, Unp.val, Unp.tid, Unp.inner, SV.cells]
        refine Lib.hid ?_
        go_wp2
        go_ret
        exact ⟨rfl, by repeat (first | exact HB5.out | apply below_alloc | apply pw_below_drewN)⟩
      · go_enter Tryz.func66, Tryz.ntmps66
        go_wp2_with (first
          | (go_at_call 98; ((with_reducible refine (HR.out _ (by repeat (first | exact HB.out | apply below_alloc | apply pw_below_drewN))).mono ?_); rintro e w5 ⟨rfl, hb⟩; refine Hid.out ?_)))
        have hk := blk_below (alloc_at w (.cells #[.int .i64 k, .string t, .string r] 27)) hb
        have HB5 := Aside0.mk (below_trans (by repeat (first | exact HB.out | apply below_alloc | apply pw_below_drewN)) hb)
        have r0 := blk_cell hk 0
        have r1 := blk_cell hk 1
        have r2 := blk_cell hk 2
        clear hk hb
        rw [HQ.out]
        dsimp only [unpVal, Unp.val, Unp.tid, Unp.inner, SV.cells]
        refine Lib.hid ?_
        go_wp2
        go_ret
        exact ⟨rfl, by repeat (first | exact HB5.out | apply below_alloc | apply pw_below_drewN)⟩
      · go_enter Tryz.func66, Tryz.ntmps66
        go_wp2_with (first
          | (go_at_call 98; ((with_reducible refine (HR.out _ (by repeat (first | exact HB.out | apply below_alloc | apply pw_below_drewN))).mono ?_); rintro e w5 ⟨rfl, hb⟩; refine Hid.out ?_)))
        have hk := blk_below (alloc_at w (.cells #[.int .i64 k, .string t, .string r] 27)) hb
        have HB5 := Aside0.mk (below_trans (by repeat (first | exact HB.out | apply below_alloc | apply pw_below_drewN)) hb)
        have r0 := blk_cell hk 0
        have r1 := blk_cell hk 1
        have r2 := blk_cell hk 2
        clear hk hb
        rw [HQ.out]
        dsimp only [unpVal, Unp.val, Unp.tid, Unp.inner, SV.cells]
        refine Lib.hid ?_
        go_wp2
        go_ret
        exact ⟨rfl, by repeat (first | exact HB5.out | apply below_alloc | apply pw_below_drewN)⟩
    · have hN : verV k t r = .pair u r := by unfold verV; rw [hq]; simp only; rw [if_neg hr]
      rw [hN]
      have hem : r.toList.isEmpty = false := isEmpty_false (size_pos hr)
      have HQ := Lib.hid hq
      clear hq hN hr
      rcases u with ⟨n, d⟩ | n | v
      · go_enter Tryz.func66, Tryz.ntmps66
        go_wp2_with (first
          | (go_at_call 98; ((with_reducible refine (HR.out _ (by repeat (first | exact HB.out | apply below_alloc | apply pw_below_drewN))).mono ?_); rintro e w5 ⟨rfl, hb⟩; refine Hid.out ?_)))
        have hk := blk_below (alloc_at w (.cells #[.int .i64 k, .string t, .string r] 27)) hb
        have HB5 := Aside0.mk (below_trans (by repeat (first | exact HB.out | apply below_alloc | apply pw_below_drewN)) hb)
        have r0 := blk_cell hk 0
        have r1 := blk_cell hk 1
        have r2 := blk_cell hk 2
        clear hk hb
        rw [HQ.out]
        dsimp only [unpVal, Unp.val, Unp.tid, Unp.inner, SV.cells]
        refine Lib.hid ?_
        go_wp2
        go_ret
        exact ⟨rfl, by repeat (first | exact HB5.out | apply below_alloc | apply pw_below_drewN)⟩
      · go_enter Tryz.func66, Tryz.ntmps66
        go_wp2_with (first
          | (go_at_call 98; ((with_reducible refine (HR.out _ (by repeat (first | exact HB.out | apply below_alloc | apply pw_below_drewN))).mono ?_); rintro e w5 ⟨rfl, hb⟩; refine Hid.out ?_)))
        have hk := blk_below (alloc_at w (.cells #[.int .i64 k, .string t, .string r] 27)) hb
        have HB5 := Aside0.mk (below_trans (by repeat (first | exact HB.out | apply below_alloc | apply pw_below_drewN)) hb)
        have r0 := blk_cell hk 0
        have r1 := blk_cell hk 1
        have r2 := blk_cell hk 2
        clear hk hb
        rw [HQ.out]
        dsimp only [unpVal, Unp.val, Unp.tid, Unp.inner, SV.cells]
        refine Lib.hid ?_
        go_wp2
        go_ret
        exact ⟨rfl, by repeat (first | exact HB5.out | apply below_alloc | apply pw_below_drewN)⟩
      · go_enter Tryz.func66, Tryz.ntmps66
        go_wp2_with (first
          | (go_at_call 98; ((with_reducible refine (HR.out _ (by repeat (first | exact HB.out | apply below_alloc | apply pw_below_drewN))).mono ?_); rintro e w5 ⟨rfl, hb⟩; refine Hid.out ?_)))
        have hk := blk_below (alloc_at w (.cells #[.int .i64 k, .string t, .string r] 27)) hb
        have HB5 := Aside0.mk (below_trans (by repeat (first | exact HB.out | apply below_alloc | apply pw_below_drewN)) hb)
        have r0 := blk_cell hk 0
        have r1 := blk_cell hk 1
        have r2 := blk_cell hk 2
        clear hk hb
        rw [HQ.out]
        dsimp only [unpVal, Unp.val, Unp.tid, Unp.inner, SV.cells]
        refine Lib.hid ?_
        go_wp2
        go_ret
        exact ⟨rfl, by repeat (first | exact HB5.out | apply below_alloc | apply pw_below_drewN)⟩
end Go.Proofs.YtgoeiflddikihaaGreatDoor.Ver
end
section
namespace Go.Proofs.YtgoeiflddikihaaGreatDoor.Ver
open Go.RowKit Go.Sort Go.Proofs.YtgoeiflddikihaaGreatDoor.Dig Go.Proofs.YtgoeiflddikihaaGreatDoorW.PrintWords
theorem zero_row (w : World) (T : TypeId) (nd : Nat) (hs : nd ≤ 24) : Holds (fun (b : UInt8) => Value.int .u8 (b.toNat : Int)) (w.alloc (.cells Lib.zeros24 T)) w.heap.size 0 (Array.replicate nd (0 : UInt8)) := fun j hj => by
  have hj' : j < nd := by simpa using hj
  refine ⟨?_, World.frozen?_alloc_new _ _ _ _⟩
  rw [World.cell?_alloc_new, Lib.zeros24_at _ (by omega), getElem!_pos _ j hj]
  simp
theorem row_below (w : World) (o : Obj) (dk : Array UInt8) (k : Nat) : Below w.heap.size w ((putRow (fun (b : UInt8) => Value.int .u8 (b.toNat : Int)) (w.alloc o) w.heap.size 0 dk).drewN k) := by
  rw [alloc_eq_grow]
  obtain ⟨os', _, e⟩ := putRow_grow_new (fun (b : UInt8) => Value.int .u8 (b.toNat : Int)) w #[o] w.heap.size 0 dk (Nat.le_refl _)
  rw [e]
  exact ⟨rfl, by simp [World.drewN, Sort.grow], rfl, by simp [World.drewN, Sort.grow], fun j hj => by simp [World.drewN, Sort.grow, Array.getElem?_append]; intro h; exact absurd h (by omega)⟩
set_option maxRecDepth 20000 in
theorem fmtU_inner (u : Nat) (hu : u < 18446744073709551616) (w : World) (hv : Vars w) : Calls Tryz.prog 236 #[.int .u64 u, .int .i64 10] w fun e w' => e = .returned (.string ⟨(Lib.decDigits u).toArray⟩) ∧ Below w.heap.size w w' := by
  by_cases hs : u < 100
  · go_enter Tryz.func236, Tryz.ntmps236
    go_wp2_with (go_at_call 168; (refine (Tryz.internal_strconv_small u hs _).mono ?_; rintro e w' ⟨rfl, rfl⟩))
    go_ret
    exact ⟨rfl, Below.refl _ _⟩
  · have hu1 : 1 ≤ u := by omega
    have hnd20 : Lib.nDigits u ≤ 20 := by have := Lib.numDigits_eq u hu1 hu; split at this <;> omega
    have hsl1 : ∀ W, (Instr.sliceAt 277 (.pointer (some ⟨w.heap.size, 0, none⟩)) none (some (.int .i64 (Lib.nDigits u : Int))) none).run Tryz.prog W = .ok (.slice (some ⟨w.heap.size, 0, none⟩) (Lib.nDigits u) 24) W := fun W => by
      rw [run_sliceAt_array_h W 277 ⟨w.heap.size, 0, none⟩ (by kernel_rfl) .i64 (Lib.nDigits u : Int) (by omega) (by rw [show Tryz.prog.arrayLen 277 = 24 by kernel_rfl]; omega)]
      rw [show Tryz.prog.arrayLen 277 = 24 by kernel_rfl, show Tryz.prog.elem 277 = 5 by kernel_rfl, show (sizeOf 5).run Tryz.prog W = .ok 1 W by kernel_rfl]
      simp [Result.andThen, slicedAt, Lib.add_plain]
    have hH0 := zero_row w 277 (Lib.nDigits u) (by omega)
    have hfmt := Tryz.internal_strconv_formatBase10 w.heap.size 0 24 u (Array.replicate (Lib.nDigits u) 0) (w.alloc (.cells Lib.zeros24 277)) hH0 (by rw [Array.size_replicate]; exact Lib.lt_pow_nDigits u) hu (by rw [Array.size_replicate]; omega)
    rw [Array.size_replicate] at hfmt
    have HH0 := Lib.hid hH0
    have HT := Lib.hid (Tryz.internal_strconv_numDigits u hu1 hu _ (Lib.tabIs_alloc hv.tab (.cells Lib.zeros24 277)))
    have HF := Lib.hid hfmt
    clear hH0 hv hfmt
    go_enter Tryz.func236, Tryz.ntmps236
    go_wp2_with (first
      | (go_at_call 169; (refine HT.out.mono ?_; rintro e w' ⟨rfl, rfl⟩))
      | (go_at_call 170; (refine HF.out.mono ?_; rintro e w' ⟨rfl, k, v', dk, rfl, hF⟩; refine Hid.out ?_)))
    have hcv : (convert 80 9 (.slice (some ⟨w.heap.size, 0, none⟩) (Lib.nDigits u) 24)).run Tryz.prog ((putRow (fun (b : UInt8) => Value.int .u8 (b.toNat : Int)) (w.alloc (.cells Lib.zeros24 277)) w.heap.size 0 dk).drewN k) = .ok (.string ⟨(Lib.decDigits u).toArray⟩) ((putRow (fun (b : UInt8) => Value.int .u8 (b.toNat : Int)) (w.alloc (.cells Lib.zeros24 277)) w.heap.size 0 dk).drewN k) := by
      have h := run_convert_bytes_back (P := Tryz.prog) ((putRow (fun (b : UInt8) => Value.int .u8 (b.toNat : Int)) (w.alloc (.cells Lib.zeros24 277)) w.heap.size 0 dk).drewN k) 80 9 5 ⟨w.heap.size, 0, none⟩ 24 (Lib.decDigits u) Tryz.underlying80 Tryz.underlying5 Tryz.underlying9 (fun j hj => by
        rw [Lib.row_is_numeral hF j hj, Lib.add_plain, World.cell?_drewN]
        exact cell?_putRow (fun (b : UInt8) => Value.int .u8 (b.toNat : Int)) _ w.heap.size 0 _ dk HH0.out (by rw [hF.size, Array.size_replicate]) j (by rw [hF.size]; rw [Lib.decDigits_length] at hj; exact hj))
      rw [Lib.decDigits_length] at h
      exact h
    clear hF
    refine Lib.hid ?_
    go_wp2_with fail
    go_ret
    exact ⟨rfl, row_below w _ dk k⟩
theorem fmtU_any (u : Nat) (hu : u < 18446744073709551616) (w : World) (hv : Vars w) : Calls Tryz.prog 235 #[.int .u64 u, .int .i64 10] w fun e w' => e = .returned (.string ⟨(Lib.decDigits u).toArray⟩) ∧ Below w.heap.size w w' := by
  have H := Lib.hid (fmtU_inner u hu w hv)
  clear hv
  go_enter Tryz.func235, Tryz.ntmps235
  go_wp2_with (go_at_call 236; (refine H.out.mono ?_; rintro e w' ⟨rfl, hb⟩))
  go_ret
  exact ⟨rfl, hb⟩
end Go.Proofs.YtgoeiflddikihaaGreatDoor.Ver
end
section
set_option linter.unusedSimpArgs false
namespace Go.Proofs.YtgoeiflddikihaaGreatDoor.Ver
open Go.RowKit Go.Proofs.YtgoeiflddikihaaGreatDoor.Dig Go.Proofs.YtgoeiflddikihaaGreatDoorW.PrintWords
structure SVok (v : SV) : Prop where
  a0 : 0 ≤ v.major
  a1 : v.major < 18446744073709551616
  b0 : 0 ≤ v.minor
  b1 : v.minor < 18446744073709551616
  c0 : 0 ≤ v.patch
  c1 : v.patch < 18446744073709551616
  p : v.pre.size ≤ 4294967296
  m : v.mt.size ≤ 4294967296
def decB (n : Int) : ByteArray := ⟨(Lib.decDigits n.toNat).toArray⟩
def threeB (v : SV) : ByteArray := decB v.major ++ ⟨#[46]⟩ ++ decB v.minor ++ ⟨#[46]⟩ ++ decB v.patch
def preB (v : SV) : ByteArray := if v.pre = ⟨#[]⟩ then threeB v else threeB v ++ (⟨#[45]⟩ ++ v.pre)
def semB (v : SV) : ByteArray := if v.mt = ⟨#[]⟩ then preB v else preB v ++ (⟨#[43]⟩ ++ v.mt)
theorem decB_size (n : Int) (h0 : 0 ≤ n) (h : n < 18446744073709551616) : (decB n).size ≤ 21 := by
  show (Lib.decDigits n.toNat).toArray.size ≤ 21
  rw [List.size_toArray, Lib.decDigits_length]
  by_cases h1 : 1 ≤ n.toNat
  · have := Lib.numDigits_eq n.toNat h1 (by omega)
    split at this <;> omega
  · have : n.toNat = 0 := by omega
    rw [this, ← Lib.decDigits_length, Lib.decDigits, dif_pos (by omega)]; simp
set_option maxRecDepth 20000 in
theorem semStr_any (v : SV) (hk : SVok v) (w : World) (hv : Vars w) : Calls Tryz.prog 233 #[.agg v.cells] w fun e w' => e = .returned (.string (semB v)) ∧ Below w.heap.size w w' := by
  obtain ⟨va, vb, vc, vp, vm, vo⟩ := v
  obtain ⟨a0, a1, b0, b1, c0, c1, hp, hm⟩ := hk
  dsimp only at a0 a1 b0 b1 c0 c1 hp hm
  have w0 : Below w.heap.size w (w.alloc (.cells #[.int .u64 va, .int .u64 vb, .int .u64 vc, .string vp, .string vm, .string vo] 197)) := below_alloc (Below.refl _ _) _
  have cI : ∀ (n : Int), 0 ≤ n → n < 18446744073709551616 → ∀ d os, Calls Tryz.prog 235 #[.int .u64 n, .int .i64 10] (Sort.grow (redrawn (w.alloc (.cells #[.int .u64 va, .int .u64 vb, .int .u64 vc, .string vp, .string vm, .string vo] 197)) d) os) fun e w'' => e = .returned (.string (decB n)) ∧ ∃ p : Regrown, w'' = Sort.grow (redrawn (w.alloc (.cells #[.int .u64 va, .int .u64 vb, .int .u64 vc, .string vp, .string vm, .string vo] 197)) p.d) p.os :=
    fun n h0 h1 d os => Calls.regrown_of (by
      have h := fmtU_any n.toNat (by omega) _ ((hv.below w0).below (below_regrown _ d os))
      rw [show ((n.toNat : Nat) : Int) = n by omega] at h
      exact h)
  have CA := Lib.hid (cI va a0 a1)
  have CB := Lib.hid (cI vb b0 b1)
  have CC := Lib.hid (cI vc c0 c1)
  have la := decB_size va a0 a1
  have lb := decB_size vb b0 b1
  have lc := decB_size vc c0 c1
  have k0 := cell_regrown (blk_cell (alloc_at w (.cells #[.int .u64 va, .int .u64 vb, .int .u64 vc, .string vp, .string vm, .string vo] 197)) 0)
  have k1 := cell_regrown (blk_cell (alloc_at w (.cells #[.int .u64 va, .int .u64 vb, .int .u64 vc, .string vp, .string vm, .string vo] 197)) 1)
  have k2 := cell_regrown (blk_cell (alloc_at w (.cells #[.int .u64 va, .int .u64 vb, .int .u64 vc, .string vp, .string vm, .string vo] 197)) 2)
  have k3 := cell_regrown (blk_cell (alloc_at w (.cells #[.int .u64 va, .int .u64 vb, .int .u64 vc, .string vp, .string vm, .string vo] 197)) 3)
  have k4 := cell_regrown (blk_cell (alloc_at w (.cells #[.int .u64 va, .int .u64 vb, .int .u64 vc, .string vp, .string vm, .string vo] 197)) 4)
  have hS : semB ⟨va, vb, vc, vp, vm, vo⟩ = (if vm = ⟨#[]⟩ then (if vp = ⟨#[]⟩ then decB va ++ ⟨#[46]⟩ ++ decB vb ++ ⟨#[46]⟩ ++ decB vc else decB va ++ ⟨#[46]⟩ ++ decB vb ++ ⟨#[46]⟩ ++ decB vc ++ (⟨#[45]⟩ ++ vp)) else (if vp = ⟨#[]⟩ then decB va ++ ⟨#[46]⟩ ++ decB vb ++ ⟨#[46]⟩ ++ decB vc else decB va ++ ⟨#[46]⟩ ++ decB vb ++ ⟨#[46]⟩ ++ decB vc ++ (⟨#[45]⟩ ++ vp)) ++ (⟨#[43]⟩ ++ vm)) := rfl
  rw [hS]
  dsimp only [SV.cells]
  clear cI a0 a1 b0 b1 c0 c1 hS hv
  generalize decB va = sa at *
  generalize decB vb = sb at *
  generalize decB vc = sc at *
  go_enter Tryz.func233, Tryz.ntmps233
  have n1 : ¬ 9223372036854775807 < sa.size + 1 := by omega
  have n2 : ¬ 9223372036854775807 < sa.size + 1 + sb.size := by omega
  have n3 : ¬ 9223372036854775807 < sa.size + 1 + sb.size + 1 := by omega
  have n4 : ¬ 9223372036854775807 < sa.size + 1 + sb.size + 1 + sc.size := by omega
  go_wp2
  refine wp_region_quiet_below (by kernel_rfl) (by kernel_rfl) ?_
  repeat (quiet_step (first | exact CA.out _ _ | exact CB.out _ _ | exact CC.out _ _))
  refine wpQuiet_nil ?_
  intro _ hw'
  obtain ⟨⟨dq, osq⟩, hw''⟩ := hw'
  subst hw''
  have hsum : (sa ++ ⟨#[46]⟩ ++ sb ++ ⟨#[46]⟩ ++ sc).size ≤ 100 := by simp only [ByteArray.size_append]; have : (⟨#[46]⟩ : ByteArray).size = 1 := rfl; omega
  clear n1 n2 n3 n4
  generalize ht : sa ++ ⟨#[46]⟩ ++ sb ++ ⟨#[46]⟩ ++ sc = t3 at *
  have HT := Lib.hid ht
  clear ht
  have z3 := k3 dq osq
  have z4 := k4 dq osq
  have HBB := Aside0.mk (below_trans w0 (below_regrown _ dq osq))
  have hone : (⟨#[45]⟩ : ByteArray).size = 1 := rfl
  have hone2 : (⟨#[43]⟩ : ByteArray).size = 1 := rfl
  have m1 : ¬ 9223372036854775807 < 1 + vp.size := by omega
  have m2 : ¬ 9223372036854775807 < t3.size + (1 + vp.size) := by omega
  have m3 : ¬ 9223372036854775807 < 1 + vm.size := by omega
  have m4 : ¬ 9223372036854775807 < t3.size + (1 + vm.size) := by omega
  have m5 : ¬ 9223372036854775807 < t3.size + (1 + vp.size) + (1 + vm.size) := by omega
  clear k0 k1 k2 k3 k4 w0 CA CB CC
  by_cases hp0 : vp = ⟨#[]⟩
  · by_cases hm0 : vm = ⟨#[]⟩
    · have e1 : vp.toList.isEmpty = true := isEmpty_true (by rw [hp0]; rfl)
      have e2 : vm.toList.isEmpty = true := isEmpty_true (by rw [hm0]; rfl)
      have HM0 := Lib.hid hm0
      have HP0 := Lib.hid hp0
      clear hp0 hm0
      go_wp2
      go_ret
      refine ⟨?_, by first | exact HBB.out | exact below_trans (below_alloc (Below.refl _ _) _) (below_regrown _ _ _)⟩
      simp [HT.out, HM0.out, HP0.out]
    · have e1 : vp.toList.isEmpty = true := isEmpty_true (by rw [hp0]; rfl)
      have e2 : vm.toList.isEmpty = false := isEmpty_false (size_pos hm0)
      have HM0 := Lib.hid hm0
      have HP0 := Lib.hid hp0
      clear hp0 hm0
      go_wp2
      go_ret
      refine ⟨?_, by first | exact HBB.out | exact below_trans (below_alloc (Below.refl _ _) _) (below_regrown _ _ _)⟩
      simp [HT.out, HM0.out, HP0.out]
  · by_cases hm0 : vm = ⟨#[]⟩
    · have e1 : vp.toList.isEmpty = false := isEmpty_false (size_pos hp0)
      have e2 : vm.toList.isEmpty = true := isEmpty_true (by rw [hm0]; rfl)
      have HM0 := Lib.hid hm0
      have HP0 := Lib.hid hp0
      clear hp0 hm0
      go_wp2
      go_ret
      refine ⟨?_, by first | exact HBB.out | exact below_trans (below_alloc (Below.refl _ _) _) (below_regrown _ _ _)⟩
      simp [HT.out, HM0.out, HP0.out]
    · have e1 : vp.toList.isEmpty = false := isEmpty_false (size_pos hp0)
      have e2 : vm.toList.isEmpty = false := isEmpty_false (size_pos hm0)
      have HM0 := Lib.hid hm0
      have HP0 := Lib.hid hp0
      clear hp0 hm0
      go_wp2
      go_ret
      refine ⟨?_, by first | exact HBB.out | exact below_trans (below_alloc (Below.refl _ _) _) (below_regrown _ _ _)⟩
      simp [HT.out, HM0.out, HP0.out]
end Go.Proofs.YtgoeiflddikihaaGreatDoor.Ver
end
