/- Merged by program out of: VId, VCp, VCompare. -/
import Derived.Test.YtgoeiflddikihaaGreatDoorCtM7
import Derived.Test.YtgoeiflddikihaaGreatDoorCtM8
import Derived.Test.YtgoeiflddikihaaGreatDoorCtM5
import Derived.WalkLawsBesides
import Derived.Deep.QuietTactic
import Derived.BigQuiet
section
namespace Go.Proofs.YtgoeiflddikihaaGreatDoor.Ver
open Go.RowKit Go.Proofs.YtgoeiflddikihaaGreatDoorW.PrintWords Go.Proofs.YtgoeiflddikihaaGreatDoor.Ord

theorem ba_eq {a b : ByteArray} (h : a.data.toList = b.data.toList) : a = b := ByteArray.ext (Array.ext' h)
theorem len_list (s : ByteArray) : s.data.toList.length = s.size := Array.length_toList
theorem extract_pre (s : ByteArray) (i : Nat) : (s.extract 0 i).data.toList = s.data.toList.take i := by
  rw [ByteArray.data_extract, Array.toList_extract]; simp [List.extract_eq_take_drop]
theorem extract_suf (s : ByteArray) (i : Nat) : (s.extract i s.size).data.toList = s.data.toList.drop i := by
  rw [ByteArray.data_extract, Array.toList_extract]
  simp only [List.extract_eq_take_drop]
  rw [List.take_of_length_le (by rw [List.length_drop, len_list]; exact Nat.le_refl _)]
def firstB (s : ByteArray) : ByteArray := ⟨(firstI s.data.toList).toArray⟩
def restB (s : ByteArray) : ByteArray := ⟨(restI s.data.toList).toArray⟩
def bareB (s : ByteArray) : ByteArray := ⟨(bareZ s.data.toList).toArray⟩
theorem firstI_at {l : List UInt8} {i : Nat} (hi : i < l.length) (h0 : ∀ c ∈ l.take i, c ≠ 46) (hc : l[i] = 46) : firstI l = l.take i ∧ restI l = l.drop (i + 1) := by
  have e : l = l.take i ++ 46 :: l.drop (i + 1) := by rw [← hc, ← List.drop_eq_getElem_cons hi, List.take_append_drop]
  have h1 : ∀ c ∈ l.take i, (c != 46) = true := fun c h => by rw [bne_iff_ne]; exact h0 c h
  refine ⟨?_, ?_⟩
  · unfold firstI
    conv => lhs; rw [e]
    rw [List.takeWhile_append_of_pos h1]; simp
  · unfold restI
    conv => lhs; rw [e]
    rw [List.dropWhile_append_of_pos h1]; simp
theorem firstI_all {l : List UInt8} (h0 : ∀ c ∈ l, c ≠ 46) : firstI l = l ∧ restI l = [] := by
  have h1 : ∀ c ∈ l, (c != 46) = true := fun c h => by rw [bne_iff_ne]; exact h0 c h
  refine ⟨?_, ?_⟩
  · unfold firstI
    have := List.takeWhile_append_of_pos (l₂ := []) h1
    simpa using this
  · unfold restI
    have := List.dropWhile_append_of_pos (l₂ := []) h1
    rw [List.append_nil] at this
    rw [this]; rfl
theorem take_more {l : List UInt8} {i : Nat} (hi : i < l.length) (h0 : ∀ c ∈ l.take i, c ≠ 46) (hc : l[i] ≠ 46) : ∀ c ∈ l.take (i + 1), c ≠ 46 := by
  intro c h
  rw [List.take_succ_eq_append_getElem hi, List.mem_append, List.mem_singleton] at h
  rcases h with h | h
  · exact h0 c h
  · rw [h]; exact hc
theorem byte_int {c : UInt8} {n : Nat} (hn : n < 256) : ((c.toNat : Int) = (n : Int)) ↔ c = UInt8.ofNat n := by
  constructor
  · intro h
    apply UInt8.toNat_inj.1
    rw [UInt8.toNat_ofNat']; omega
  · rintro rfl
    rw [UInt8.toNat_ofNat']; omega
theorem first_tells (s : ByteArray) (hn : s.size ≤ 140737488351232) (d : Nat) : ∀ (k i : Nat), i ≤ s.size → s.size - i = d → d < k → (∀ c ∈ s.data.toList.take i, c ≠ 46) →
    Pfirst.semver_first.l0 k s (i : Int) = some (firstB s, restB s) := by
  induction d with
  | zero =>
    intro k i hi hd hk h0
    cases k with
    | zero => omega
    | succ k =>
      rw [Pfirst.semver_first.l0, if_neg (by omega)]
      rw [List.take_of_length_le (by rw [len_list]; omega)] at h0
      obtain ⟨e1, e2⟩ := firstI_all h0
      unfold firstB restB
      rw [e1, e2]
  | succ d ih =>
    intro k i hi hd hk h0
    have hlt : i < s.size := by omega
    have hll : i < s.data.toList.length := by rw [len_list]; exact hlt
    have hget : s.data.toList[i] = s[i] := rfl
    cases k with
    | zero => omega
    | succ k =>
      have w1 : wrap64 ((i : Int) + 1) = ((i + 1 : Nat) : Int) := by rw [wrap_in (by omega) (by omega)]; omega
      rw [Pfirst.semver_first.l0, if_pos (by omega), if_pos (by omega), bt_nat s i hlt, w1]
      by_cases hc : s[i] = 46
      · rw [if_pos (by rw [hc]; rfl), if_pos (by omega), if_pos (by omega), if_pos (by omega)]
        obtain ⟨e1, e2⟩ := firstI_at hll h0 (hget.trans hc)
        unfold firstB restB
        rw [e1, e2]
        congr 2
        · apply ba_eq; rw [Int.toNat_natCast, extract_pre]
        · apply ba_eq; rw [Int.toNat_natCast, extract_suf]
      · have hne : ¬ ((s[i].toNat : Int) = 46) := fun h => hc ((byte_int (n := 46) (by omega)).1 h)
        rw [if_neg hne]
        exact ih k (i + 1) (by omega) (by omega) (by omega) (take_more hll h0 (fun h => hc (hget.symm.trans h)))
theorem first_any (s : ByteArray) (hn : s.size ≤ 140737488351232) (w : World) :
    Calls Tryz.prog 210 #[.string s] w fun e w' => e = .returned (.tuple #[.string (firstB s), .string (restB s)]) ∧ ∃ n, w' = w.drewN n :=
  (Pfirst.semver_first.calls (s.size + 1) s _ _ w (first_tells s hn s.size (s.size + 1) 0 (by omega) (by omega) (by omega) (by simp))).mono fun _ _ ⟨h, hd⟩ => ⟨h, hd.out⟩

theorem number_tells (s : ByteArray) (hn : s.size ≤ 140737488351232) (d : Nat) : ∀ (k i : Nat), i ≤ s.size → s.size - i = d → d < k →
    Pcompare.semver_number.l0 k s (i : Int) = some (!s.data.toList.isEmpty && (s.data.toList.drop i).all Ord.isDig) := by
  induction d with
  | zero =>
    intro k i hi hd hk
    cases k with
    | zero => omega
    | succ k =>
      rw [Pcompare.semver_number.l0, if_neg (by omega), List.drop_eq_nil_of_le (by rw [len_list]; omega), ByteArray.toList_eq]
      cases s.data.toList <;> rfl
  | succ d ih =>
    intro k i hi hd hk
    have hlt : i < s.size := by omega
    have hne : s.data.toList.isEmpty = false := by
      have := drop_at s i hlt
      cases h : s.data.toList with
      | nil => rw [h] at this; simp at this
      | cons => rfl
    cases k with
    | zero => omega
    | succ k =>
      have w1 : wrap64 ((i : Int) + 1) = ((i + 1 : Nat) : Int) := by rw [wrap_in (by omega) (by omega)]; omega
      rw [Pcompare.semver_number.l0, if_pos (by omega), if_pos (by omega), bt_nat s i hlt, w1, drop_at s i hlt, List.all_cons]
      have e1 := ih k (i + 1) (by omega) (by omega) (by omega)
      unfold Ord.isDig at *
      by_cases h1 : s[i].toNat < 48
      · rw [if_pos (by omega), decide_eq_false (by omega)]; simp
      · rw [if_neg (by omega)]
        by_cases h2 : s[i].toNat ≤ 57
        · rw [if_neg (by omega), e1, decide_eq_true (by omega : 48 ≤ s[i].toNat), decide_eq_true h2]; simp
        · rw [if_pos (by omega), decide_eq_false h2]; simp
theorem number_any (s : ByteArray) (hn : s.size ≤ 140737488351232) (w : World) :
    Calls Tryz.prog 212 #[.string s] w fun e w' => e = .returned (.bool (idNum s.data.toList)) ∧ ∃ n, w' = w.drewN n :=
  (Pcompare.semver_number.calls (s.size + 1) s _ w (number_tells s hn s.size (s.size + 1) 0 (by omega) (by omega) (by omega))).mono fun _ _ ⟨h, hd⟩ => ⟨h, hd.out⟩

theorem bare_tells (d : Nat) : ∀ (s : ByteArray) (k : Nat), s.size = d → d < k → Pcompare.semver_bare.l0 k s = some (bareB s) := by
  induction d with
  | zero =>
    intro s k hd hk
    cases k with
    | zero => omega
    | succ k =>
      rw [Pcompare.semver_bare.l0, if_neg (by omega)]
      congr 1
      apply ba_eq
      have : s.data.toList = [] := List.length_eq_zero_iff.1 (by rw [len_list]; exact hd)
      unfold bareB; rw [this]; rfl
  | succ d ih =>
    intro s k hd hk
    cases k with
    | zero => omega
    | succ k =>
      have e0 := drop_at s 0 (by omega)
      rw [List.drop_zero] at e0
      rw [Pcompare.semver_bare.l0]
      by_cases h1 : 1 < s.size
      · have e1 := drop_at s 1 h1
        rw [if_pos (by omega), if_pos (by omega), show ((0 : Int)) = ((0 : Nat) : Int) from rfl, bt_nat s 0 (by omega)]
        by_cases hc : s[0] = 48
        · rw [if_pos (by rw [hc]; rfl), if_pos (by omega), ih (s.extract 1 s.size) k (by rw [ByteArray.size_extract]; omega) (by omega)]
          congr 1
          apply ba_eq
          unfold bareB
          show bareZ (s.extract 1 s.size).data.toList = bareZ s.data.toList
          rw [extract_suf]
          conv => rhs; rw [e0, e1, hc]
          rw [e1]
          rfl
        · have hne : ¬ ((s[0].toNat : Int) = 48) := fun h => hc ((byte_int (n := 48) (by omega)).1 h)
          rw [if_neg hne]
          congr 1
          apply ba_eq
          unfold bareB
          show _ = bareZ s.data.toList
          rw [e0, e1]
          simp only [bareZ]
          rw [if_neg hc]
      · rw [if_neg (by omega)]
        congr 1
        apply ba_eq
        unfold bareB
        show _ = bareZ s.data.toList
        rw [e0, List.drop_eq_nil_of_le (by rw [len_list]; omega)]
        rfl
theorem bare_any (s : ByteArray) (w : World) :
    Calls Tryz.prog 213 #[.string s] w fun e w' => e = .returned (.string (bareB s)) ∧ ∃ n, w' = w.drewN n :=
  (Pcompare.semver_bare.calls (s.size + 1) s _ w (bare_tells s.size s (s.size + 1) rfl (by omega))).mono fun _ _ ⟨h, hd⟩ => ⟨h, hd.out⟩

end Go.Proofs.YtgoeiflddikihaaGreatDoor.Ver
end
section
namespace Go.Proofs.YtgoeiflddikihaaGreatDoor.Ver
open Go.RowKit Go.Proofs.YtgoeiflddikihaaGreatDoorW.PrintWords Go.Proofs.YtgoeiflddikihaaGreatDoor.Ord

/-- How two texts' comparison goes, in the walk's spelling. -/
theorem str_cases (x y : ByteArray) : (Op.bytesLess x.toList y.toList = true ∧ (x.toList == y.toList) = false ∧ bytesC x.data.toList y.data.toList = -1) ∨ (Op.bytesLess x.toList y.toList = false ∧ (x.toList == y.toList) = true ∧ bytesC x.data.toList y.data.toList = 0) ∨ (Op.bytesLess x.toList y.toList = false ∧ (x.toList == y.toList) = false ∧ bytesC x.data.toList y.data.toList = 1) := by
  rw [ByteArray.toList_eq, ByteArray.toList_eq, bytesC_form]
  generalize x.data.toList = a
  generalize y.data.toList = b
  by_cases h : Op.bytesLess a b = true
  · refine Or.inl ⟨h, ?_, by rw [if_pos h]⟩
    rw [beq_eq_false_iff_ne]
    rintro rfl
    have := (bytesC_less a a).2 h
    rw [cmp_bytes.refl] at this
    omega
  · have h' : Op.bytesLess a b = false := by simpa using h
    by_cases e : a = b
    · exact Or.inr (Or.inl ⟨h', beq_iff_eq.2 e, by rw [if_neg h, if_pos e]⟩)
    · exact Or.inr (Or.inr ⟨h', beq_eq_false_iff_ne.2 e, by rw [if_neg h, if_neg e]⟩)
theorem num_as {s : ByteArray} {b : Bool} (hn : s.size ≤ 140737488351232) (h : idNum s.data.toList = b) (w : World) : Calls Tryz.prog 212 #[.string s] w fun e w' => e = .returned (.bool b) ∧ Drawn0 w w' :=
  (number_any s hn w).mono fun _ _ ⟨he, hd⟩ => ⟨by rw [he, h], ⟨hd⟩⟩
theorem bare_as (s : ByteArray) (w : World) : Calls Tryz.prog 213 #[.string s] w fun e w' => e = .returned (.string (bareB s)) ∧ Drawn0 w w' :=
  (bare_any s w).mono fun _ _ ⟨he, hd⟩ => ⟨he, ⟨hd⟩⟩

set_option maxHeartbeats 2000000 in
theorem cp_nn (x y : ByteArray) (hx : x.size ≤ 140737488351232) (hy : y.size ≤ 140737488351232) (ha : idNum x.data.toList = true) (hb : idNum y.data.toList = true) (w : World) :
    Calls Tryz.prog 211 #[.string x, .string y] w fun e w' => e = .returned (.int .i64 (idC x.data.toList y.data.toList)) ∧ Drawn0 w w' := by
  have N1 := Lib.hid (num_as hx ha)
  have N2 := Lib.hid (num_as hy hb)
  have B1 := Lib.hid (bare_as x)
  have B2 := Lib.hid (bare_as y)
  have z1 : (bareZ x.data.toList).length = (bareB x).size := (len_list (bareB x))
  have z2 : (bareZ y.data.toList).length = (bareB y).size := (len_list (bareB y))
  have hR := idC_nn ha hb
  rw [z1, z2] at hR
  rw [hR]
  clear hR hx hy
  by_cases hl : (bareB x).size = (bareB y).size
  · rw [if_pos hl]
    show Calls _ _ _ _ fun e w' => e = .returned (.int .i64 (bytesC (bareB x).data.toList (bareB y).data.toList)) ∧ _
    have l1 : (((bareB x).size : Int) != ((bareB y).size : Int)) = false := by rw [hl]; simp
    clear hl ha hb z1 z2
    generalize bareB x = X at *
    generalize bareB y = Y at *
    rcases str_cases X Y with ⟨c1, c2, c3⟩ | ⟨c1, c2, c3⟩ | ⟨c1, c2, c3⟩
    all_goals
      rw [c3]
      clear c3
      go_enter Tryz.func211, Tryz.ntmps211
      go_wp2_with (first
        | (go_at_call 212; ((with_reducible refine (N1.out _).mono ?_); rintro e w1 ⟨rfl, ⟨n1, rfl⟩⟩))
        | (go_at_call 212; ((with_reducible refine (N2.out _).mono ?_); rintro e w1 ⟨rfl, ⟨n2, rfl⟩⟩))
        | (go_at_call 213; ((with_reducible refine (B1.out _).mono ?_); rintro e w1 ⟨rfl, ⟨n3, rfl⟩⟩))
        | (go_at_call 213; ((with_reducible refine (B2.out _).mono ?_); rintro e w1 ⟨rfl, ⟨n4, rfl⟩⟩)))
      go_ret
      exact ⟨rfl, by repeat (first | exact Drawn0.refl _ | apply Drawn0.step)⟩
  · rw [if_neg hl]
    have l1 : (((bareB x).size : Int) != ((bareB y).size : Int)) = true := by rw [bne_iff_ne]; omega
    by_cases hlt : (bareB x).size < (bareB y).size
    · rw [if_pos hlt]
      have l2 : decide ((bareB x).size < (bareB y).size) = true := decide_eq_true hlt
      clear hl ha hb z1 z2 hlt
      generalize bareB x = X at *
      generalize bareB y = Y at *
      go_enter Tryz.func211, Tryz.ntmps211
      go_wp2_with (first
        | (go_at_call 212; ((with_reducible refine (N1.out _).mono ?_); rintro e w1 ⟨rfl, ⟨n1, rfl⟩⟩))
        | (go_at_call 212; ((with_reducible refine (N2.out _).mono ?_); rintro e w1 ⟨rfl, ⟨n2, rfl⟩⟩))
        | (go_at_call 213; ((with_reducible refine (B1.out _).mono ?_); rintro e w1 ⟨rfl, ⟨n3, rfl⟩⟩))
        | (go_at_call 213; ((with_reducible refine (B2.out _).mono ?_); rintro e w1 ⟨rfl, ⟨n4, rfl⟩⟩)))
      go_ret
      exact ⟨rfl, by repeat (first | exact Drawn0.refl _ | apply Drawn0.step)⟩
    · rw [if_neg hlt]
      have l2 : decide ((bareB x).size < (bareB y).size) = false := decide_eq_false hlt
      clear hl ha hb z1 z2 hlt
      generalize bareB x = X at *
      generalize bareB y = Y at *
      go_enter Tryz.func211, Tryz.ntmps211
      go_wp2_with (first
        | (go_at_call 212; ((with_reducible refine (N1.out _).mono ?_); rintro e w1 ⟨rfl, ⟨n1, rfl⟩⟩))
        | (go_at_call 212; ((with_reducible refine (N2.out _).mono ?_); rintro e w1 ⟨rfl, ⟨n2, rfl⟩⟩))
        | (go_at_call 213; ((with_reducible refine (B1.out _).mono ?_); rintro e w1 ⟨rfl, ⟨n3, rfl⟩⟩))
        | (go_at_call 213; ((with_reducible refine (B2.out _).mono ?_); rintro e w1 ⟨rfl, ⟨n4, rfl⟩⟩)))
      go_ret
      exact ⟨rfl, by repeat (first | exact Drawn0.refl _ | apply Drawn0.step)⟩
theorem cp_na (x y : ByteArray) (hx : x.size ≤ 140737488351232) (hy : y.size ≤ 140737488351232) (ha : idNum x.data.toList = true) (hb : idNum y.data.toList = false) (w : World) :
    Calls Tryz.prog 211 #[.string x, .string y] w fun e w' => e = .returned (.int .i64 (idC x.data.toList y.data.toList)) ∧ Drawn0 w w' := by
  have N1 := Lib.hid (num_as hx ha)
  have N2 := Lib.hid (num_as hy hb)
  rw [idC_na ha hb]
  clear ha hb hx hy
  go_enter Tryz.func211, Tryz.ntmps211
  go_wp2_with (first
    | (go_at_call 212; ((with_reducible refine (N1.out _).mono ?_); rintro e w1 ⟨rfl, ⟨n1, rfl⟩⟩))
    | (go_at_call 212; ((with_reducible refine (N2.out _).mono ?_); rintro e w1 ⟨rfl, ⟨n2, rfl⟩⟩)))
  go_ret
  exact ⟨rfl, by repeat (first | exact Drawn0.refl _ | apply Drawn0.step)⟩
theorem cp_an (x y : ByteArray) (hx : x.size ≤ 140737488351232) (hy : y.size ≤ 140737488351232) (ha : idNum x.data.toList = false) (hb : idNum y.data.toList = true) (w : World) :
    Calls Tryz.prog 211 #[.string x, .string y] w fun e w' => e = .returned (.int .i64 (idC x.data.toList y.data.toList)) ∧ Drawn0 w w' := by
  have N1 := Lib.hid (num_as hx ha)
  have N2 := Lib.hid (num_as hy hb)
  rw [idC_an ha hb]
  clear ha hb hx hy
  go_enter Tryz.func211, Tryz.ntmps211
  go_wp2_with (first
    | (go_at_call 212; ((with_reducible refine (N1.out _).mono ?_); rintro e w1 ⟨rfl, ⟨n1, rfl⟩⟩))
    | (go_at_call 212; ((with_reducible refine (N2.out _).mono ?_); rintro e w1 ⟨rfl, ⟨n2, rfl⟩⟩)))
  go_ret
  exact ⟨rfl, by repeat (first | exact Drawn0.refl _ | apply Drawn0.step)⟩
theorem cp_aa (x y : ByteArray) (hx : x.size ≤ 140737488351232) (hy : y.size ≤ 140737488351232) (ha : idNum x.data.toList = false) (hb : idNum y.data.toList = false) (w : World) :
    Calls Tryz.prog 211 #[.string x, .string y] w fun e w' => e = .returned (.int .i64 (idC x.data.toList y.data.toList)) ∧ Drawn0 w w' := by
  have N1 := Lib.hid (num_as hx ha)
  have N2 := Lib.hid (num_as hy hb)
  rw [idC_aa ha hb]
  clear ha hb hx hy
  rcases str_cases x y with ⟨c1, c2, c3⟩ | ⟨c1, c2, c3⟩ | ⟨c1, c2, c3⟩
  all_goals
    rw [c3]
    clear c3
    go_enter Tryz.func211, Tryz.ntmps211
    go_wp2_with (first
      | (go_at_call 212; ((with_reducible refine (N1.out _).mono ?_); rintro e w1 ⟨rfl, ⟨n1, rfl⟩⟩))
      | (go_at_call 212; ((with_reducible refine (N2.out _).mono ?_); rintro e w1 ⟨rfl, ⟨n2, rfl⟩⟩)))
    go_ret
    exact ⟨rfl, by repeat (first | exact Drawn0.refl _ | apply Drawn0.step)⟩
theorem compare_any (x y : ByteArray) (hx : x.size ≤ 140737488351232) (hy : y.size ≤ 140737488351232) (w : World) :
    Calls Tryz.prog 211 #[.string x, .string y] w fun e w' => e = .returned (.int .i64 (idC x.data.toList y.data.toList)) ∧ Drawn0 w w' := by
  cases ha : idNum x.data.toList <;> cases hb : idNum y.data.toList
  · exact cp_aa x y hx hy ha hb w
  · exact cp_an x y hx hy ha hb w
  · exact cp_na x y hx hy ha hb w
  · exact cp_nn x y hx hy ha hb w

end Go.Proofs.YtgoeiflddikihaaGreatDoor.Ver
end
section
namespace Go.Proofs.YtgoeiflddikihaaGreatDoor.Ver
open Go.RowKit Go.Proofs.YtgoeiflddikihaaGreatDoorW.PrintWords Go.Proofs.YtgoeiflddikihaaGreatDoor.Ord

theorem cmpV_1l {v u : SV} (h : v.major < u.major) : cmpV v u = -1 := thenC_ne (intC_lt h) (by omega)
theorem cmpV_1g {v u : SV} (h : u.major < v.major) : cmpV v u = 1 := thenC_ne (intC_gt h) (by omega)
theorem intC_self (a : Int) : intC a a = 0 := cmp_int.refl a
theorem cmpV_2l {v u : SV} (h1 : v.major = u.major) (h : v.minor < u.minor) : cmpV v u = -1 := thenC_go (by unfold onC; rw [h1, intC_self]) (thenC_ne (intC_lt h) (by omega))
theorem cmpV_2g {v u : SV} (h1 : v.major = u.major) (h : u.minor < v.minor) : cmpV v u = 1 := thenC_go (by unfold onC; rw [h1, intC_self]) (thenC_ne (intC_gt h) (by omega))
theorem cmpV_3l {v u : SV} (h1 : v.major = u.major) (h2 : v.minor = u.minor) (h : v.patch < u.patch) : cmpV v u = -1 := thenC_go (by unfold onC; rw [h1, intC_self]) (thenC_go (by unfold onC; rw [h2, intC_self]) (thenC_ne (intC_lt h) (by omega)))
theorem cmpV_3g {v u : SV} (h1 : v.major = u.major) (h2 : v.minor = u.minor) (h : u.patch < v.patch) : cmpV v u = 1 := thenC_go (by unfold onC; rw [h1, intC_self]) (thenC_go (by unfold onC; rw [h2, intC_self]) (thenC_ne (intC_gt h) (by omega)))
theorem cmpV_4 {v u : SV} (h1 : v.major = u.major) (h2 : v.minor = u.minor) (h3 : v.patch = u.patch) : cmpV v u = preC v.pre.data.toList u.pre.data.toList := thenC_go (by unfold onC; rw [h1, intC_self]) (thenC_go (by unfold onC; rw [h2, intC_self]) (thenC_go (by unfold onC; rw [h3, intC_self]) rfl))
/-- What the numbers tell. -/
def NumTell (va vb vc ua ub uc r p : Int) : Prop := (va < ua → r = -1) ∧ (ua < va → r = 1) ∧ (va = ua → vb < ub → r = -1) ∧ (va = ua → ub < vb → r = 1) ∧ (va = ua → vb = ub → vc < uc → r = -1) ∧ (va = ua → vb = ub → uc < vc → r = 1) ∧ (va = ua → vb = ub → vc = uc → r = p)
theorem numTell (v u : SV) : NumTell v.major v.minor v.patch u.major u.minor u.patch (cmpV v u) (preC v.pre.data.toList u.pre.data.toList) :=
  ⟨cmpV_1l, cmpV_1g, cmpV_2l, cmpV_2g, cmpV_3l, cmpV_3g, cmpV_4⟩
/-- How the parts behind the dash begin to compare. -/
theorem pre_cases (x y : ByteArray) : ((x.toList == y.toList) = true ∧ preC x.data.toList y.data.toList = 0) ∨ ((x.toList == y.toList) = false ∧ x.toList.isEmpty = true ∧ preC x.data.toList y.data.toList = 1) ∨ ((x.toList == y.toList) = false ∧ x.toList.isEmpty = false ∧ y.toList.isEmpty = true ∧ preC x.data.toList y.data.toList = -1) ∨ ((x.toList == y.toList) = false ∧ x.toList.isEmpty = false ∧ y.toList.isEmpty = false ∧ preC x.data.toList y.data.toList = listC idC (parts x.data.toList) (parts y.data.toList)) := by
  rw [ByteArray.toList_eq, ByteArray.toList_eq]
  generalize x.data.toList = a
  generalize y.data.toList = b
  by_cases e : a = b
  · subst e; exact Or.inl ⟨beq_self_eq_true _, preC_same _⟩
  · have he : (a == b) = false := beq_eq_false_iff_ne.2 e
    cases a with
    | nil => exact Or.inr (Or.inl ⟨he, rfl, preC_left (fun h => e h.symm)⟩)
    | cons c r =>
      cases b with
      | nil => exact Or.inr (Or.inr (Or.inl ⟨he, rfl, rfl, preC_right (by simp)⟩))
      | cons d t => exact Or.inr (Or.inr (Or.inr ⟨he, rfl, rfl, preC_both (by simp) (by simp)⟩))

/-- How what is left of the identifiers compares. -/
theorem ab_cases (A B : ByteArray) : (A.toList.isEmpty = true ∧ B.toList.isEmpty = true ∧ (A.toList == B.toList) = true ∧ listC idC (parts A.data.toList) (parts B.data.toList) = 0) ∨ (A.toList.isEmpty = true ∧ B.toList.isEmpty = false ∧ (A.toList == B.toList) = false ∧ listC idC (parts A.data.toList) (parts B.data.toList) = -1) ∨ (A.toList.isEmpty = false ∧ B.toList.isEmpty = true ∧ (A.toList == B.toList) = false ∧ listC idC (parts A.data.toList) (parts B.data.toList) = 1) ∨ (A.toList.isEmpty = false ∧ B.toList.isEmpty = false ∧
    ((idC (firstB A).data.toList (firstB B).data.toList = 0 → listC idC (parts A.data.toList) (parts B.data.toList) = listC idC (parts (restB A).data.toList) (parts (restB B).data.toList)) ∧ (idC (firstB A).data.toList (firstB B).data.toList ≠ 0 → listC idC (parts A.data.toList) (parts B.data.toList) = idC (firstB A).data.toList (firstB B).data.toList))) := by
  rw [ByteArray.toList_eq, ByteArray.toList_eq]
  unfold firstB restB
  dsimp only
  generalize A.data.toList = a
  generalize B.data.toList = b
  cases a with
  | nil =>
    cases b with
    | nil => exact Or.inl ⟨rfl, rfl, rfl, partsC_none⟩
    | cons d t => exact Or.inr (Or.inl ⟨rfl, rfl, rfl, partsC_less (by simp)⟩)
  | cons c r =>
    cases b with
    | nil => exact Or.inr (Or.inr (Or.inl ⟨rfl, rfl, rfl, partsC_more (by simp)⟩))
    | cons d t => exact Or.inr (Or.inr (Or.inr ⟨rfl, rfl, partsC_step (by simp) (by simp), partsC_stop (by simp) (by simp)⟩))
theorem firstB_le (A : ByteArray) : (firstB A).size ≤ A.size := by
  rw [← len_list, ← len_list]
  show (firstI A.data.toList).length ≤ _
  exact (List.takeWhile_sublist _).length_le
theorem restB_le (A : ByteArray) : (restB A).size ≤ A.size := by
  rw [← len_list, ← len_list]
  show (restI A.data.toList).length ≤ _
  unfold restI
  rw [List.length_drop]
  have := (List.dropWhile_sublist (l := A.data.toList) (· != 46)).length_le
  omega
theorem restB_lt {A : ByteArray} (h : A.toList.isEmpty = false) : (restB A).size < A.size := by
  rw [← len_list, ← len_list]
  refine restI_lt ?_
  rintro e
  rw [ByteArray.toList_eq, e] at h
  cases h

set_option maxRecDepth 20000 in
set_option maxHeartbeats 4000000 in
theorem cmp_short (v u : SV) (hq : ((v.pre.toList == u.pre.toList) = true ∧ preC v.pre.data.toList u.pre.data.toList = 0) ∨ ((v.pre.toList == u.pre.toList) = false ∧ v.pre.toList.isEmpty = true ∧ preC v.pre.data.toList u.pre.data.toList = 1) ∨ ((v.pre.toList == u.pre.toList) = false ∧ v.pre.toList.isEmpty = false ∧ u.pre.toList.isEmpty = true ∧ preC v.pre.data.toList u.pre.data.toList = -1)) (w : World) :
    Calls Tryz.prog 209 #[.agg v.cells, .agg u.cells] w fun e w' => e = .returned (.int .i64 (cmpV v u)) ∧ Below w.heap.size w w' := by
  have HT := Lib.hid (numTell v u)
  generalize cmpV v u = r at *
  obtain ⟨va, vb, vc, vp, vm, vo⟩ := v
  obtain ⟨ua, ub, uc, up, um, uo⟩ := u
  dsimp only at HT hq
  have i0 : ∀ W, (Instr.index 306 (.agg #[.int .u64 va, .int .u64 ua, .int .u64 vb, .int .u64 ub, .int .u64 vc, .int .u64 uc]) (.int .i64 0)).run Tryz.prog W = .ok (.agg #[.int .u64 va, .int .u64 ua]) W := fun _ => by kernel_rfl
  have i1 : ∀ W, (Instr.index 306 (.agg #[.int .u64 va, .int .u64 ua, .int .u64 vb, .int .u64 ub, .int .u64 vc, .int .u64 uc]) (.int .i64 1)).run Tryz.prog W = .ok (.agg #[.int .u64 vb, .int .u64 ub]) W := fun _ => by kernel_rfl
  have i2 : ∀ W, (Instr.index 306 (.agg #[.int .u64 va, .int .u64 ua, .int .u64 vb, .int .u64 ub, .int .u64 vc, .int .u64 uc]) (.int .i64 2)).run Tryz.prog W = .ok (.agg #[.int .u64 vc, .int .u64 uc]) W := fun _ => by kernel_rfl
  have HB := Aside0.mk (Below.refl w.heap.size w)
  rcases hq with ⟨q1, hp⟩ | ⟨q1, q2, hp⟩ | ⟨q1, q2, q3, hp⟩
  all_goals
    rw [hp] at HT
    clear hp
    dsimp only [SV.cells]
    go_enter Tryz.func209, Tryz.ntmps209
    go_wp2_with fail
    go_loopw [28] (fun v28 wr => ∃ k : Int, v28 = .int .i64 k ∧ (0 ≤ k ∧ k ≤ 3) ∧ Hid (1 ≤ k → va = ua) ∧ Hid (2 ≤ k → vb = ub) ∧ Hid (3 ≤ k → vc = uc) ∧ Aside0 (Below w.heap.size w wr) ∧ Aside0 (wr.heap[w.heap.size]? = some (bSV va vb vc vp vm vo)) ∧ Aside0 (wr.heap[w.heap.size + 1]? = some (bSV ua ub uc up um uo)) ∧ Aside0 (w.heap.size + 2 ≤ wr.heap.size)) (fun v28 _ => (3 - intOf v28).toNat)
    case atStart =>
      refine ⟨0, rfl, by omega, Lib.hid (by omega), Lib.hid (by omega), Lib.hid (by omega), ⟨below_alloc (below_alloc HB.out _) _⟩, ⟨blk_alloc (alloc_at w _) _⟩, ⟨?_⟩, ⟨by rw [alloc_size, alloc_size]; omega⟩⟩
      have := alloc_at (w.alloc (bSV va vb vc vp vm vo)) (bSV ua ub uc up um uo)
      rw [alloc_size] at this
      exact this
    case round =>
      obtain ⟨k, rfl, hk, H1, H2, H3, HW, HV, HU, HZ⟩ := hrel
      have HSZ := Lib.hid HW.out.size
      obtain rfl | rfl | rfl | rfl : k = 0 ∨ k = 1 ∨ k = 2 ∨ k = 3 := by omega
      · rcases Int.lt_trichotomy va ua with h | h | h
        · have d1 : decide (va < ua) = true := decide_eq_true h
          obtain rfl := (HT.out.1 h)
          clear h
          go_wp2_with fail
          go_ret
          exact ⟨rfl, by repeat (first | exact HW.out | apply below_alloc | apply pw_below_drewN | (refine below_set ?_ HSZ.out))⟩
        · have d1 : decide (va < ua) = false := decide_eq_false (by omega)
          have d2 : decide (ua < va) = false := decide_eq_false (by omega)
          have HE := Lib.hid h
          clear h
          go_wp2_with fail
          go_roundw
          case rel => exact ⟨1, by first | rfl | go_num, by omega, Lib.hid (fun _ => HE.out), Lib.hid (fun _ => absurd ‹_› (by omega)), Lib.hid (fun _ => absurd ‹_› (by omega)), ⟨by repeat (first | exact HW.out | apply below_alloc | apply pw_below_drewN | (refine below_set ?_ HSZ.out))⟩, ⟨by repeat (first | exact HV.out | apply blk_alloc | refine blk_far ?_ (by show w.heap.size ≠ wr.heap.size; have := HZ.out; omega) _)⟩, ⟨by repeat (first | exact HU.out | apply blk_alloc | refine blk_far ?_ (by show w.heap.size + 1 ≠ wr.heap.size; have := HZ.out; omega) _)⟩, ⟨by have := HZ.out; first | (simp; omega) | omega⟩⟩
          case measure => simp [intOf]
        · have d1 : decide (va < ua) = false := decide_eq_false (by omega)
          have d2 : decide (ua < va) = true := decide_eq_true h
          obtain rfl := (HT.out.2.1 h)
          clear h
          go_wp2_with fail
          go_ret
          exact ⟨rfl, by repeat (first | exact HW.out | apply below_alloc | apply pw_below_drewN | (refine below_set ?_ HSZ.out))⟩
      · rcases Int.lt_trichotomy vb ub with h | h | h
        · have d1 : decide (vb < ub) = true := decide_eq_true h
          obtain rfl := (HT.out.2.2.1 (H1.out (by omega)) h)
          clear h
          go_wp2_with fail
          go_ret
          exact ⟨rfl, by repeat (first | exact HW.out | apply below_alloc | apply pw_below_drewN | (refine below_set ?_ HSZ.out))⟩
        · have d1 : decide (vb < ub) = false := decide_eq_false (by omega)
          have d2 : decide (ub < vb) = false := decide_eq_false (by omega)
          have HE := Lib.hid h
          clear h
          go_wp2_with fail
          go_roundw
          case rel => exact ⟨2, by first | rfl | go_num, by omega, Lib.hid (fun _ => H1.out (by omega)), Lib.hid (fun _ => HE.out), Lib.hid (fun _ => absurd ‹_› (by omega)), ⟨by repeat (first | exact HW.out | apply below_alloc | apply pw_below_drewN | (refine below_set ?_ HSZ.out))⟩, ⟨by repeat (first | exact HV.out | apply blk_alloc | refine blk_far ?_ (by show w.heap.size ≠ wr.heap.size; have := HZ.out; omega) _)⟩, ⟨by repeat (first | exact HU.out | apply blk_alloc | refine blk_far ?_ (by show w.heap.size + 1 ≠ wr.heap.size; have := HZ.out; omega) _)⟩, ⟨by have := HZ.out; first | (simp; omega) | omega⟩⟩
          case measure => simp [intOf]
        · have d1 : decide (vb < ub) = false := decide_eq_false (by omega)
          have d2 : decide (ub < vb) = true := decide_eq_true h
          obtain rfl := (HT.out.2.2.2.1 (H1.out (by omega)) h)
          clear h
          go_wp2_with fail
          go_ret
          exact ⟨rfl, by repeat (first | exact HW.out | apply below_alloc | apply pw_below_drewN | (refine below_set ?_ HSZ.out))⟩
      · rcases Int.lt_trichotomy vc uc with h | h | h
        · have d1 : decide (vc < uc) = true := decide_eq_true h
          obtain rfl := (HT.out.2.2.2.2.1 (H1.out (by omega)) (H2.out (by omega)) h)
          clear h
          go_wp2_with fail
          go_ret
          exact ⟨rfl, by repeat (first | exact HW.out | apply below_alloc | apply pw_below_drewN | (refine below_set ?_ HSZ.out))⟩
        · have d1 : decide (vc < uc) = false := decide_eq_false (by omega)
          have d2 : decide (uc < vc) = false := decide_eq_false (by omega)
          have HE := Lib.hid h
          clear h
          go_wp2_with fail
          go_roundw
          case rel => exact ⟨3, by first | rfl | go_num, by omega, Lib.hid (fun _ => H1.out (by omega)), Lib.hid (fun _ => H2.out (by omega)), Lib.hid (fun _ => HE.out), ⟨by repeat (first | exact HW.out | apply below_alloc | apply pw_below_drewN | (refine below_set ?_ HSZ.out))⟩, ⟨by repeat (first | exact HV.out | apply blk_alloc | refine blk_far ?_ (by show w.heap.size ≠ wr.heap.size; have := HZ.out; omega) _)⟩, ⟨by repeat (first | exact HU.out | apply blk_alloc | refine blk_far ?_ (by show w.heap.size + 1 ≠ wr.heap.size; have := HZ.out; omega) _)⟩, ⟨by have := HZ.out; first | (simp; omega) | omega⟩⟩
          case measure => simp [intOf]
        · have d1 : decide (vc < uc) = false := decide_eq_false (by omega)
          have d2 : decide (uc < vc) = true := decide_eq_true h
          obtain rfl := (HT.out.2.2.2.2.2.1 (H1.out (by omega)) (H2.out (by omega)) h)
          clear h
          go_wp2_with fail
          go_ret
          exact ⟨rfl, by repeat (first | exact HW.out | apply below_alloc | apply pw_below_drewN | (refine below_set ?_ HSZ.out))⟩
      · have hr := HT.out.2.2.2.2.2.2 (H1.out (by omega)) (H2.out (by omega)) (H3.out (by omega))
        subst hr
        have c3 := blk_cell HV.out 3
        have e3 := blk_cell HU.out 3
        go_wp2_with fail
        go_ret
        exact ⟨rfl, by repeat (first | exact HW.out | apply below_alloc | apply pw_below_drewN | (refine below_set ?_ HSZ.out))⟩

set_option maxRecDepth 20000 in
set_option maxHeartbeats 4000000 in
theorem cmp_long (v u : SV) (q1 : (v.pre.toList == u.pre.toList) = false) (q2 : v.pre.toList.isEmpty = false) (q3 : u.pre.toList.isEmpty = false) (hp : preC v.pre.data.toList u.pre.data.toList = listC idC (parts v.pre.data.toList) (parts u.pre.data.toList)) (hv : v.pre.size ≤ 140737488351232) (hu : u.pre.size ≤ 140737488351232) (w : World) :
    Calls Tryz.prog 209 #[.agg v.cells, .agg u.cells] w fun e w' => e = .returned (.int .i64 (cmpV v u)) ∧ Below w.heap.size w w' := by
  have HT := Lib.hid (numTell v u)
  generalize cmpV v u = r at *
  obtain ⟨va, vb, vc, vp, vm, vo⟩ := v
  obtain ⟨ua, ub, uc, up, um, uo⟩ := u
  dsimp only at HT hv hu q1 q2 q3 hp
  have i0 : ∀ W, (Instr.index 306 (.agg #[.int .u64 va, .int .u64 ua, .int .u64 vb, .int .u64 ub, .int .u64 vc, .int .u64 uc]) (.int .i64 0)).run Tryz.prog W = .ok (.agg #[.int .u64 va, .int .u64 ua]) W := fun _ => by kernel_rfl
  have i1 : ∀ W, (Instr.index 306 (.agg #[.int .u64 va, .int .u64 ua, .int .u64 vb, .int .u64 ub, .int .u64 vc, .int .u64 uc]) (.int .i64 1)).run Tryz.prog W = .ok (.agg #[.int .u64 vb, .int .u64 ub]) W := fun _ => by kernel_rfl
  have i2 : ∀ W, (Instr.index 306 (.agg #[.int .u64 va, .int .u64 ua, .int .u64 vb, .int .u64 ub, .int .u64 vc, .int .u64 uc]) (.int .i64 2)).run Tryz.prog W = .ok (.agg #[.int .u64 vc, .int .u64 uc]) W := fun _ => by kernel_rfl
  have HB := Aside0.mk (Below.refl w.heap.size w)
  · skip
    rw [hp] at HT
    clear hp
    dsimp only [SV.cells]
    go_enter Tryz.func209, Tryz.ntmps209
    go_wp2_with fail
    go_loopw [28] (fun v28 wr => ∃ k : Int, v28 = .int .i64 k ∧ (0 ≤ k ∧ k ≤ 3) ∧ Hid (1 ≤ k → va = ua) ∧ Hid (2 ≤ k → vb = ub) ∧ Hid (3 ≤ k → vc = uc) ∧ Aside0 (Below w.heap.size w wr) ∧ Aside0 (wr.heap[w.heap.size]? = some (bSV va vb vc vp vm vo)) ∧ Aside0 (wr.heap[w.heap.size + 1]? = some (bSV ua ub uc up um uo)) ∧ Aside0 (w.heap.size + 2 ≤ wr.heap.size)) (fun v28 _ => (3 - intOf v28).toNat)
    case atStart =>
      refine ⟨0, rfl, by omega, Lib.hid (by omega), Lib.hid (by omega), Lib.hid (by omega), ⟨below_alloc (below_alloc HB.out _) _⟩, ⟨blk_alloc (alloc_at w _) _⟩, ⟨?_⟩, ⟨by rw [alloc_size, alloc_size]; omega⟩⟩
      have := alloc_at (w.alloc (bSV va vb vc vp vm vo)) (bSV ua ub uc up um uo)
      rw [alloc_size] at this
      exact this
    case round =>
      obtain ⟨k, rfl, hk, H1, H2, H3, HW, HV, HU, HZ⟩ := hrel
      have HSZ := Lib.hid HW.out.size
      obtain rfl | rfl | rfl | rfl : k = 0 ∨ k = 1 ∨ k = 2 ∨ k = 3 := by omega
      · rcases Int.lt_trichotomy va ua with h | h | h
        · have d1 : decide (va < ua) = true := decide_eq_true h
          obtain rfl := (HT.out.1 h)
          clear h
          go_wp2_with fail
          go_ret
          exact ⟨rfl, by repeat (first | exact HW.out | apply below_alloc | apply pw_below_drewN | (refine below_set ?_ HSZ.out))⟩
        · have d1 : decide (va < ua) = false := decide_eq_false (by omega)
          have d2 : decide (ua < va) = false := decide_eq_false (by omega)
          have HE := Lib.hid h
          clear h
          go_wp2_with fail
          go_roundw
          case rel => exact ⟨1, by first | rfl | go_num, by omega, Lib.hid (fun _ => HE.out), Lib.hid (fun _ => absurd ‹_› (by omega)), Lib.hid (fun _ => absurd ‹_› (by omega)), ⟨by repeat (first | exact HW.out | apply below_alloc | apply pw_below_drewN | (refine below_set ?_ HSZ.out))⟩, ⟨by repeat (first | exact HV.out | apply blk_alloc | refine blk_far ?_ (by show w.heap.size ≠ wr.heap.size; have := HZ.out; omega) _)⟩, ⟨by repeat (first | exact HU.out | apply blk_alloc | refine blk_far ?_ (by show w.heap.size + 1 ≠ wr.heap.size; have := HZ.out; omega) _)⟩, ⟨by have := HZ.out; first | (simp; omega) | omega⟩⟩
          case measure => simp [intOf]
        · have d1 : decide (va < ua) = false := decide_eq_false (by omega)
          have d2 : decide (ua < va) = true := decide_eq_true h
          obtain rfl := (HT.out.2.1 h)
          clear h
          go_wp2_with fail
          go_ret
          exact ⟨rfl, by repeat (first | exact HW.out | apply below_alloc | apply pw_below_drewN | (refine below_set ?_ HSZ.out))⟩
      · rcases Int.lt_trichotomy vb ub with h | h | h
        · have d1 : decide (vb < ub) = true := decide_eq_true h
          obtain rfl := (HT.out.2.2.1 (H1.out (by omega)) h)
          clear h
          go_wp2_with fail
          go_ret
          exact ⟨rfl, by repeat (first | exact HW.out | apply below_alloc | apply pw_below_drewN | (refine below_set ?_ HSZ.out))⟩
        · have d1 : decide (vb < ub) = false := decide_eq_false (by omega)
          have d2 : decide (ub < vb) = false := decide_eq_false (by omega)
          have HE := Lib.hid h
          clear h
          go_wp2_with fail
          go_roundw
          case rel => exact ⟨2, by first | rfl | go_num, by omega, Lib.hid (fun _ => H1.out (by omega)), Lib.hid (fun _ => HE.out), Lib.hid (fun _ => absurd ‹_› (by omega)), ⟨by repeat (first | exact HW.out | apply below_alloc | apply pw_below_drewN | (refine below_set ?_ HSZ.out))⟩, ⟨by repeat (first | exact HV.out | apply blk_alloc | refine blk_far ?_ (by show w.heap.size ≠ wr.heap.size; have := HZ.out; omega) _)⟩, ⟨by repeat (first | exact HU.out | apply blk_alloc | refine blk_far ?_ (by show w.heap.size + 1 ≠ wr.heap.size; have := HZ.out; omega) _)⟩, ⟨by have := HZ.out; first | (simp; omega) | omega⟩⟩
          case measure => simp [intOf]
        · have d1 : decide (vb < ub) = false := decide_eq_false (by omega)
          have d2 : decide (ub < vb) = true := decide_eq_true h
          obtain rfl := (HT.out.2.2.2.1 (H1.out (by omega)) h)
          clear h
          go_wp2_with fail
          go_ret
          exact ⟨rfl, by repeat (first | exact HW.out | apply below_alloc | apply pw_below_drewN | (refine below_set ?_ HSZ.out))⟩
      · rcases Int.lt_trichotomy vc uc with h | h | h
        · have d1 : decide (vc < uc) = true := decide_eq_true h
          obtain rfl := (HT.out.2.2.2.2.1 (H1.out (by omega)) (H2.out (by omega)) h)
          clear h
          go_wp2_with fail
          go_ret
          exact ⟨rfl, by repeat (first | exact HW.out | apply below_alloc | apply pw_below_drewN | (refine below_set ?_ HSZ.out))⟩
        · have d1 : decide (vc < uc) = false := decide_eq_false (by omega)
          have d2 : decide (uc < vc) = false := decide_eq_false (by omega)
          have HE := Lib.hid h
          clear h
          go_wp2_with fail
          go_roundw
          case rel => exact ⟨3, by first | rfl | go_num, by omega, Lib.hid (fun _ => H1.out (by omega)), Lib.hid (fun _ => H2.out (by omega)), Lib.hid (fun _ => HE.out), ⟨by repeat (first | exact HW.out | apply below_alloc | apply pw_below_drewN | (refine below_set ?_ HSZ.out))⟩, ⟨by repeat (first | exact HV.out | apply blk_alloc | refine blk_far ?_ (by show w.heap.size ≠ wr.heap.size; have := HZ.out; omega) _)⟩, ⟨by repeat (first | exact HU.out | apply blk_alloc | refine blk_far ?_ (by show w.heap.size + 1 ≠ wr.heap.size; have := HZ.out; omega) _)⟩, ⟨by have := HZ.out; first | (simp; omega) | omega⟩⟩
          case measure => simp [intOf]
        · have d1 : decide (vc < uc) = false := decide_eq_false (by omega)
          have d2 : decide (uc < vc) = true := decide_eq_true h
          obtain rfl := (HT.out.2.2.2.2.2.1 (H1.out (by omega)) (H2.out (by omega)) h)
          clear h
          go_wp2_with fail
          go_ret
          exact ⟨rfl, by repeat (first | exact HW.out | apply below_alloc | apply pw_below_drewN | (refine below_set ?_ HSZ.out))⟩
      · have HR := Lib.hid (HT.out.2.2.2.2.2.2 (H1.out (by omega)) (H2.out (by omega)) (H3.out (by omega)))
        have c3 := blk_cell HV.out 3
        have e3 := blk_cell HU.out 3
        go_wp2_with fail
        go_quiet (fail)
        go_wp2_with fail
        rename_i nq
        clear c3 e3 q1 q2 q3
        go_loopw [7, 8] (fun v7 v8 wx => ∃ (A B : ByteArray), v7 = .string A ∧ v8 = .string B ∧ Hid (r = listC idC (parts A.data.toList) (parts B.data.toList)) ∧ A.size ≤ 140737488351232 ∧ B.size ≤ 140737488351232 ∧ Aside0 (Below w.heap.size w wx)) (fun v7 _ _ => match v7 with | .string a => a.size | _ => 0)
        case atStart => exact ⟨vp, up, rfl, rfl, HR, hv, hu, ⟨by repeat (first | exact HW.out | apply below_alloc | apply pw_below_drewN)⟩⟩
        case round =>
          obtain ⟨A, B, rfl, rfl, HA, hA, hB, HX⟩ := hrel
          rcases ab_cases A B with ⟨a1, a2, e1, hr⟩ | ⟨a1, a2, e1, hr⟩ | ⟨a1, a2, e1, hr⟩ | ⟨a1, a2, hr⟩
          · have hr := HA.out.trans hr
            subst hr
            go_wp2_with fail
            go_ret
            exact ⟨rfl, by repeat (first | exact HX.out | apply below_alloc | apply pw_below_drewN)⟩
          · have hr := HA.out.trans hr
            subst hr
            go_wp2_with fail
            go_ret
            exact ⟨rfl, by repeat (first | exact HX.out | apply below_alloc | apply pw_below_drewN)⟩
          · have hr := HA.out.trans hr
            subst hr
            go_wp2_with fail
            go_ret
            exact ⟨rfl, by repeat (first | exact HX.out | apply below_alloc | apply pw_below_drewN)⟩
          · have F1 := Lib.hid (fun W => first_any A hA W)
            have F2 := Lib.hid (fun W => first_any B hB W)
            have C := Lib.hid (fun W => compare_any (firstB A) (firstB B) (by have := firstB_le A; omega) (by have := firstB_le B; omega) W)
            have m1 := restB_lt a1
            have m2 := restB_le B
            have HL := Lib.hid hr
            clear hr
            by_cases hc : idC (firstB A).data.toList (firstB B).data.toList = 0
            · have h2 := HA.out.trans (HL.out.1 hc)
              have HA2 := Lib.hid h2
              rw [hc] at C
              clear h2 hc HA HL
              generalize firstB A = fa at *
              generalize firstB B = fb at *
              generalize restB A = ra at *
              generalize restB B = rb at *
              have HM := Lib.hid m1
              have hra : ra.size ≤ 140737488351232 := by omega
              have hrb : rb.size ≤ 140737488351232 := by omega
              clear m1 m2
              go_wp2_with (first
                | (go_at_call 210; ((with_reducible refine (F1.out _).mono ?_); rintro e w1 ⟨rfl, n1, rfl⟩))
                | (go_at_call 210; ((with_reducible refine (F2.out _).mono ?_); rintro e w1 ⟨rfl, n2, rfl⟩))
                | (go_at_call 211; ((with_reducible refine (C.out _).mono ?_); rintro e w1 ⟨rfl, ⟨n3, rfl⟩⟩)))
              go_roundw
              case rel => exact ⟨ra, rb, rfl, rfl, HA2, hra, hrb, ⟨by repeat (first | exact HX.out | apply below_alloc | apply pw_below_drewN)⟩⟩
              case measure => exact HM.out
            · have h2 := HA.out.trans (HL.out.2 hc)
              rw [← h2] at C hc
              have d1 : (r != 0) = true := bne_iff_ne.2 hc
              clear h2 hc HA HL m1 m2
              generalize firstB A = fa at *
              generalize firstB B = fb at *
              generalize restB A = ra at *
              generalize restB B = rb at *
              go_wp2_with (first
                | (go_at_call 210; ((with_reducible refine (F1.out _).mono ?_); rintro e w1 ⟨rfl, n1, rfl⟩))
                | (go_at_call 210; ((with_reducible refine (F2.out _).mono ?_); rintro e w1 ⟨rfl, n2, rfl⟩))
                | (go_at_call 211; ((with_reducible refine (C.out _).mono ?_); rintro e w1 ⟨rfl, ⟨n3, rfl⟩⟩)))
              go_ret
              exact ⟨rfl, by repeat (first | exact HX.out | apply below_alloc | apply pw_below_drewN)⟩

theorem cmp_any (v u : SV) (hv : v.pre.size ≤ 140737488351232) (hu : u.pre.size ≤ 140737488351232) (w : World) :
    Calls Tryz.prog 209 #[.agg v.cells, .agg u.cells] w fun e w' => e = .returned (.int .i64 (cmpV v u)) ∧ Below w.heap.size w w' := by
  rcases pre_cases v.pre u.pre with h | h | h | ⟨q1, q2, q3, hp⟩
  · exact cmp_short v u (Or.inl h) w
  · exact cmp_short v u (Or.inr (Or.inl h)) w
  · exact cmp_short v u (Or.inr (Or.inr h)) w
  · exact cmp_long v u q1 q2 q3 hp hv hu w

end Go.Proofs.YtgoeiflddikihaaGreatDoor.Ver
end
