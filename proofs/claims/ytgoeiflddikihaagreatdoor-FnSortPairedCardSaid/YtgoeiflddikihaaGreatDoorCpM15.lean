/- Merged by program out of: VCp, SortP, SpecA. -/
import Derived.Test.YtgoeiflddikihaaGreatDoorCpM14
import Derived.Test.YtgoeiflddikihaaGreatDoorCpM12
import Derived.Test.YtgoeiflddikihaaGreatDoorCpM11
import Derived.Test.YtgoeiflddikihaaGreatDoorCpM10
section
namespace Go.Proofs.YtgoeiflddikihaaGreatDoor.Ver
open Go.RowKit Go.Proofs.YtgoeiflddikihaaGreatDoorW.PrintWords Go.Proofs.YtgoeiflddikihaaGreatDoor.Ord
theorem str_cases (x y : ByteArray) : (Op.bytesLess x.toList y.toList = true ∧ (x.toList == y.toList) = false ∧ bytesC x.data.toList y.data.toList = -1) ∨ (Op.bytesLess x.toList y.toList = false ∧ (x.toList == y.toList) = true ∧ bytesC x.data.toList y.data.toList = 0) ∨ (Op.bytesLess x.toList y.toList = false ∧ (x.toList == y.toList) = false ∧ bytesC x.data.toList y.data.toList = 1) := by
  rw [ByteArray.toList_eq, ByteArray.toList_eq, bytesC_form]
  generalize x.data.toList = a
  generalize y.data.toList = b
  by_cases h : Op.bytesLess a b = true
  · refine Or.inl ⟨h, ?_, by rw [if_pos h]⟩
    rw [beq_eq_false_iff_ne]
    rintro rfl
    have := (bytesC_less a a).2 h
    rw [cmp_bytes.refl] at this
    omega
  · have h' : Op.bytesLess a b = false := by simpa using h
    by_cases e : a = b
    · exact Or.inr (Or.inl ⟨h', beq_iff_eq.2 e, by rw [if_neg h, if_pos e]⟩)
    · exact Or.inr (Or.inr ⟨h', beq_eq_false_iff_ne.2 e, by rw [if_neg h, if_neg e]⟩)
theorem num_as {s : ByteArray} {b : Bool} (hn : s.size ≤ 140737488351232) (h : idNum s.data.toList = b) (w : World) : Calls Tryz.prog 212 #[.string s] w fun e w' => e = .returned (.bool b) ∧ Drawn0 w w' :=
  (number_any s hn w).mono fun _ _ ⟨he, hd⟩ => ⟨by rw [he, h], ⟨hd⟩⟩
theorem bare_as (s : ByteArray) (w : World) : Calls Tryz.prog 213 #[.string s] w fun e w' => e = .returned (.string (bareB s)) ∧ Drawn0 w w' :=
  (bare_any s w).mono fun _ _ ⟨he, hd⟩ => ⟨he, ⟨hd⟩⟩
set_option maxHeartbeats 2000000 in
theorem cp_nn (x y : ByteArray) (hx : x.size ≤ 140737488351232) (hy : y.size ≤ 140737488351232) (ha : idNum x.data.toList = true) (hb : idNum y.data.toList = true) (w : World) :
    Calls Tryz.prog 211 #[.string x, .string y] w fun e w' => e = .returned (.int .i64 (idC x.data.toList y.data.toList)) ∧ Drawn0 w w' := by
  have N1 := Lib.hid (num_as hx ha)
  have N2 := Lib.hid (num_as hy hb)
  have B1 := Lib.hid (bare_as x)
  have B2 := Lib.hid (bare_as y)
  have z1 : (bareZ x.data.toList).length = (bareB x).size := (len_list (bareB x))
  have z2 : (bareZ y.data.toList).length = (bareB y).size := (len_list (bareB y))
  have hR := idC_nn ha hb
  rw [z1, z2] at hR
  rw [hR]
  clear hR hx hy
  by_cases hl : (bareB x).size = (bareB y).size
  · rw [if_pos hl]
    show Calls _ _ _ _ fun e w' => e = .returned (.int .i64 (bytesC (bareB x).data.toList (bareB y).data.toList)) ∧ _
    have l1 : (((bareB x).size : Int) != ((bareB y).size : Int)) = false := by rw [hl]; simp
    clear hl ha hb z1 z2
    generalize bareB x = X at *
    generalize bareB y = Y at *
    rcases str_cases X Y with ⟨c1, c2, c3⟩ | ⟨c1, c2, c3⟩ | ⟨c1, c2, c3⟩
    all_goals
      rw [c3]
      clear c3
      go_enter Tryz.func211, Tryz.ntmps211
      go_wp2_with (first
        | (go_at_call 212; ((with_reducible refine (N1.out _).mono ?_); rintro e w1 ⟨rfl, ⟨n1, rfl⟩⟩))
        | (go_at_call 212; ((with_reducible refine (N2.out _).mono ?_); rintro e w1 ⟨rfl, ⟨n2, rfl⟩⟩))
        | (go_at_call 213; ((with_reducible refine (B1.out _).mono ?_); rintro e w1 ⟨rfl, ⟨n3, rfl⟩⟩))
        | (go_at_call 213; ((with_reducible refine (B2.out _).mono ?_); rintro e w1 ⟨rfl, ⟨n4, rfl⟩⟩)))
      go_ret
      exact ⟨rfl, by repeat (first | exact Drawn0.refl _ | apply Drawn0.step)⟩
  · rw [if_neg hl]
    have l1 : (((bareB x).size : Int) != ((bareB y).size : Int)) = true := by rw [bne_iff_ne]; omega
    by_cases hlt : (bareB x).size < (bareB y).size
    · rw [if_pos hlt]
      have l2 : decide ((bareB x).size < (bareB y).size) = true := decide_eq_true hlt
      clear hl ha hb z1 z2 hlt
      generalize bareB x = X at *
      generalize bareB y = Y at *
      go_enter Tryz.func211, Tryz.ntmps211
      go_wp2_with (first
        | (go_at_call 212; ((with_reducible refine (N1.out _).mono ?_); rintro e w1 ⟨rfl, ⟨n1, rfl⟩⟩))
        | (go_at_call 212; ((with_reducible refine (N2.out _).mono ?_); rintro e w1 ⟨rfl, ⟨n2, rfl⟩⟩))
        | (go_at_call 213; ((with_reducible refine (B1.out _).mono ?_); rintro e w1 ⟨rfl, ⟨n3, rfl⟩⟩))
        | (go_at_call 213; ((with_reducible refine (B2.out _).mono ?_); rintro e w1 ⟨rfl, ⟨n4, rfl⟩⟩)))
      go_ret
      exact ⟨rfl, by repeat (first | exact Drawn0.refl _ | apply Drawn0.step)⟩
    · rw [if_neg hlt]
      have l2 : decide ((bareB x).size < (bareB y).size) = false := decide_eq_false hlt
      clear hl ha hb z1 z2 hlt
      generalize bareB x = X at *
      generalize bareB y = Y at *
      go_enter Tryz.func211, Tryz.ntmps211
      go_wp2_with (first
        | (go_at_call 212; ((with_reducible refine (N1.out _).mono ?_); rintro e w1 ⟨rfl, ⟨n1, rfl⟩⟩))
        | (go_at_call 212; ((with_reducible refine (N2.out _).mono ?_); rintro e w1 ⟨rfl, ⟨n2, rfl⟩⟩))
        | (go_at_call 213; ((with_reducible refine (B1.out _).mono ?_); rintro e w1 ⟨rfl, ⟨n3, rfl⟩⟩))
        | (go_at_call 213; ((with_reducible refine (B2.out _).mono ?_); rintro e w1 ⟨rfl, ⟨n4, rfl⟩⟩)))
      go_ret
      exact ⟨rfl, by repeat (first | exact Drawn0.refl _ | apply Drawn0.step)⟩
theorem cp_na (x y : ByteArray) (hx : x.size ≤ 140737488351232) (hy : y.size ≤ 140737488351232) (ha : idNum x.data.toList = true) (hb : idNum y.data.toList = false) (w : World) :
    Calls Tryz.prog 211 #[.string x, .string y] w fun e w' => e = .returned (.int .i64 (idC x.data.toList y.data.toList)) ∧ Drawn0 w w' := by
  have N1 := Lib.hid (num_as hx ha)
  have N2 := Lib.hid (num_as hy hb)
  rw [idC_na ha hb]
  clear ha hb hx hy
  go_enter Tryz.func211, Tryz.ntmps211
  go_wp2_with (first
    | (go_at_call 212; ((with_reducible refine (N1.out _).mono ?_); rintro e w1 ⟨rfl, ⟨n1, rfl⟩⟩))
    | (go_at_call 212; ((with_reducible refine (N2.out _).mono ?_); rintro e w1 ⟨rfl, ⟨n2, rfl⟩⟩)))
  go_ret
  exact ⟨rfl, by repeat (first | exact Drawn0.refl _ | apply Drawn0.step)⟩
theorem cp_an (x y : ByteArray) (hx : x.size ≤ 140737488351232) (hy : y.size ≤ 140737488351232) (ha : idNum x.data.toList = false) (hb : idNum y.data.toList = true) (w : World) :
    Calls Tryz.prog 211 #[.string x, .string y] w fun e w' => e = .returned (.int .i64 (idC x.data.toList y.data.toList)) ∧ Drawn0 w w' := by
  have N1 := Lib.hid (num_as hx ha)
  have N2 := Lib.hid (num_as hy hb)
  rw [idC_an ha hb]
  clear ha hb hx hy
  go_enter Tryz.func211, Tryz.ntmps211
  go_wp2_with (first
    | (go_at_call 212; ((with_reducible refine (N1.out _).mono ?_); rintro e w1 ⟨rfl, ⟨n1, rfl⟩⟩))
    | (go_at_call 212; ((with_reducible refine (N2.out _).mono ?_); rintro e w1 ⟨rfl, ⟨n2, rfl⟩⟩)))
  go_ret
  exact ⟨rfl, by repeat (first | exact Drawn0.refl _ | apply Drawn0.step)⟩
theorem cp_aa (x y : ByteArray) (hx : x.size ≤ 140737488351232) (hy : y.size ≤ 140737488351232) (ha : idNum x.data.toList = false) (hb : idNum y.data.toList = false) (w : World) :
    Calls Tryz.prog 211 #[.string x, .string y] w fun e w' => e = .returned (.int .i64 (idC x.data.toList y.data.toList)) ∧ Drawn0 w w' := by
  have N1 := Lib.hid (num_as hx ha)
  have N2 := Lib.hid (num_as hy hb)
  rw [idC_aa ha hb]
  clear ha hb hx hy
  rcases str_cases x y with ⟨c1, c2, c3⟩ | ⟨c1, c2, c3⟩ | ⟨c1, c2, c3⟩
  all_goals
    rw [c3]
    clear c3
    go_enter Tryz.func211, Tryz.ntmps211
    go_wp2_with (first
      | (go_at_call 212; ((with_reducible refine (N1.out _).mono ?_); rintro e w1 ⟨rfl, ⟨n1, rfl⟩⟩))
      | (go_at_call 212; ((with_reducible refine (N2.out _).mono ?_); rintro e w1 ⟨rfl, ⟨n2, rfl⟩⟩)))
    go_ret
    exact ⟨rfl, by repeat (first | exact Drawn0.refl _ | apply Drawn0.step)⟩
theorem compare_any (x y : ByteArray) (hx : x.size ≤ 140737488351232) (hy : y.size ≤ 140737488351232) (w : World) :
    Calls Tryz.prog 211 #[.string x, .string y] w fun e w' => e = .returned (.int .i64 (idC x.data.toList y.data.toList)) ∧ Drawn0 w w' := by
  cases ha : idNum x.data.toList <;> cases hb : idNum y.data.toList
  · exact cp_aa x y hx hy ha hb w
  · exact cp_an x y hx hy ha hb w
  · exact cp_na x y hx hy ha hb w
  · exact cp_nn x y hx hy ha hb w
end Go.Proofs.YtgoeiflddikihaaGreatDoor.Ver
end
section
namespace Go.Proofs.YtgoeiflddikihaaGreatDoor.Ver
set_option linter.unusedSimpArgs false
set_option linter.unusedVariables false
open Go.RowKit Go.Proofs.YtgoeiflddikihaaGreatDoor.PFnVersion Go.Proofs.YtgoeiflddikihaaGreatDoorW.PrintWords
structure RightV (k : Int) (t r : ByteArray) : Prop where
  k0 : 0 ≤ k
  k3 : k ≤ 3
  t0 : 0 < t.size
  t60 : t.size ≤ 60
  r60 : r.size ≤ 60
  rk : k = 0 → r = ⟨#[]⟩
def to30 (x : S27) : S30 := ⟨x.f0, x.f1, x.f2⟩
theorem plain_f (s : ByteArray) (hn : s.size ≤ 140737488351232) : ∃ b k0, (∀ k, k0 ≤ k → spec_VerPlain.f k s 60 = some b) ∧ (b = true → 0 < s.size ∧ s.size ≤ 60) := by
  obtain ⟨b, k0, h1, h2⟩ := plain_tells s hn s.size 0 (by omega) (by omega)
  exact ⟨b, k0, fun k hk => h1 k hk, h2⟩
theorem nil_of_toList {r : ByteArray} (h : r.toList = []) : r = ⟨#[]⟩ := by
  rw [ByteArray.toList_eq] at h
  apply ByteArray.ext
  exact Array.toList_eq_nil_iff.1 h
theorem isV_f (k : Int) (t r : ByteArray) (ht : t.size ≤ 140737488351232) (hr : r.size ≤ 140737488351232) : ∃ b k0, (∀ n, k0 ≤ n → spec_IsV.f n k t r = some b) ∧ (b = true → RightV k t r) := by
  obtain ⟨b1, k1, h1, p1⟩ := plain_f t ht
  obtain ⟨b2, k2, h2, p2⟩ := plain_f r hr
  by_cases c1 : k ≥ 0
  · by_cases c2 : k ≤ 3
    · cases b1 with
      | false => exact ⟨false, k1, fun n hn => by rw [spec_IsV.f, if_pos c1, if_pos c2, h1 n hn]; rfl, fun h => by cases h⟩
      | true =>
        by_cases c3 : r.toList = ([] : List UInt8)
        · obtain ⟨q1, q2⟩ := p1 rfl
          have hr0 := nil_of_toList c3
          exact ⟨true, k1, fun n hn => by rw [spec_IsV.f, if_pos c1, if_pos c2, h1 n hn]; rw [Option.bind_some, if_pos rfl, if_pos c3], fun _ => ⟨c1, c2, q1, q2, by rw [hr0]; decide, fun _ => hr0⟩⟩
        · by_cases c4 : k = 0
          · exact ⟨false, k1, fun n hn => by rw [spec_IsV.f, if_pos c1, if_pos c2, h1 n hn]; rw [Option.bind_some, if_pos rfl, if_neg c3, if_pos c4], fun h => by cases h⟩
          · refine ⟨b2, k1 + k2, fun n hn => by rw [spec_IsV.f, if_pos c1, if_pos c2, h1 n (by omega)]; rw [Option.bind_some, if_pos rfl, if_neg c3, if_neg c4, h2 n (by omega)]; rfl, fun h => ?_⟩
            obtain ⟨q1, q2⟩ := p1 rfl
            obtain ⟨q3, q4⟩ := p2 h
            exact ⟨c1, c2, q1, q2, q4, fun h0 => absurd h0 c4⟩
    · exact ⟨false, 0, fun n _ => by rw [spec_IsV.f, if_pos c1, if_neg c2], fun h => by cases h⟩
  · exact ⟨false, 0, fun n _ => by rw [spec_IsV.f, if_neg c1], fun h => by cases h⟩
theorem rd27 (l : List S27) (j : Nat) (h : j < l.length) : rd_T27 l (j : Int) = l[j] := by simp [rd_T27, h]
theorem rd30 (l : List S30) (j : Nat) (h : j < l.length) : rd_T30 l (j : Int) = l[j] := by simp [rd_T30, h]
theorem next64 (j : Nat) (h : j ≤ 1000000000000) : wrap64 ((j : Int) + 1) = ((j + 1 : Nat) : Int) := by rw [wrap_in (by omega) (by omega)]; omega
theorem all_loop (l : List S27) (hl : l.length ≤ 1000000000000) (hs : ∀ x ∈ l, x.f1.size ≤ 140737488351232 ∧ x.f2.size ≤ 140737488351232) (d : Nat) : ∀ j : Nat, j ≤ l.length → l.length - j = d →
    ∃ b k0, (∀ n, k0 ≤ n → laws_verAll.l0 n l (l.length : Int) (j : Int) = some b) ∧ (b = true → ∀ x ∈ l.drop j, RightV x.f0 x.f1 x.f2) := by
  induction d with
  | zero =>
    intro j hj hd
    refine ⟨true, 1, fun n hn => ?_, fun _ x hx => ?_⟩
    · obtain ⟨n, rfl⟩ : ∃ i, n = i + 1 := ⟨n - 1, by omega⟩
      rw [laws_verAll.l0, if_neg (by omega)]
    · rw [List.drop_eq_nil_of_le (by omega)] at hx; cases hx
  | succ d ih =>
    intro j hj hd
    have hlt : j < l.length := by omega
    obtain ⟨b, k0, h1, h2⟩ := ih (j + 1) (by omega) (by omega)
    obtain ⟨q1, q2⟩ := hs l[j] (List.getElem_mem hlt)
    obtain ⟨c, k1, h3, h4⟩ := isV_f l[j].f0 l[j].f1 l[j].f2 q1 q2
    have w1 := next64 j (by omega)
    cases c with
    | false =>
      refine ⟨false, k1 + 1, fun n hn => ?_, fun h => by cases h⟩
      obtain ⟨n, rfl⟩ : ∃ i, n = i + 1 := ⟨n - 1, by omega⟩
      rw [laws_verAll.l0, if_pos (by omega), if_pos (by omega), if_pos (by omega), rd27 l j hlt]
      show ((spec_IsV.f n l[j].f0 l[j].f1 l[j].f2).bind _) = _
      rw [h3 n (by omega)]; rfl
    | true =>
      refine ⟨b, k0 + k1 + 1, fun n hn => ?_, fun h x hx => ?_⟩
      · obtain ⟨n, rfl⟩ : ∃ i, n = i + 1 := ⟨n - 1, by omega⟩
        rw [laws_verAll.l0, if_pos (by omega), if_pos (by omega), if_pos (by omega), rd27 l j hlt]
        show ((spec_IsV.f n l[j].f0 l[j].f1 l[j].f2).bind _) = _
        rw [h3 n (by omega)]
        rw [Option.bind_some, if_pos rfl]
        rw [w1]
        exact h1 n (by omega)
      · rw [List.drop_eq_getElem_cons hlt] at hx
        rcases List.mem_cons.1 hx with rfl | hx
        · exact h4 rfl
        · exact h2 h x hx
theorem all_f (l : List S27) (hl : l.length ≤ 1000000000000) (hs : ∀ x ∈ l, x.f1.size ≤ 140737488351232 ∧ x.f2.size ≤ 140737488351232) :
    ∃ b k0, (∀ n, k0 ≤ n → laws_verAll.f n l = some b) ∧ (b = true → l.length ≤ 20 ∧ ∀ x ∈ l, RightV x.f0 x.f1 x.f2) := by
  by_cases h : (l.length : Int) > 20
  · exact ⟨false, 0, fun n _ => by rw [laws_verAll.f, if_pos h], fun h => by cases h⟩
  · obtain ⟨b, k0, h1, h2⟩ := all_loop l hl hs l.length 0 (Nat.zero_le _) (by omega)
    exact ⟨b, k0, fun n hn => by rw [laws_verAll.f, if_neg h]; exact h1 n hn, fun hb => ⟨by omega, by have := h2 hb; rwa [List.drop_zero] at this⟩⟩
theorem list_loop (l : List S27) (hl : l.length ≤ 1000000) (d : Nat) : ∀ (j : Nat), j ≤ l.length → l.length - j = d → ∀ n, d < n →
    laws_verList.l0 n ((l.take j).map to30) l (l.length : Int) (j : Int) = some (l.map to30, true) := by
  induction d with
  | zero =>
    intro j hj hd n hn
    obtain ⟨n, rfl⟩ : ∃ i, n = i + 1 := ⟨n - 1, by omega⟩
    rw [laws_verList.l0, if_neg (by omega), List.take_of_length_le (by omega)]
  | succ d ih =>
    intro j hj hd n hn
    obtain ⟨n, rfl⟩ : ∃ i, n = i + 1 := ⟨n - 1, by omega⟩
    have hlt : j < l.length := by omega
    rw [laws_verList.l0, if_pos (by omega), if_pos (by omega), if_pos (by omega), rd27 l j hlt]
    show (if ((l.take j).map to30).length < 3518437208883 then laws_verList.l0 n ((l.take j).map to30 ++ [to30 l[j]]) l (l.length : Int) (wrap64 ((j : Int) + 1)) else none) = _
    rw [if_pos (by rw [List.length_map, List.length_take]; omega), next64 j (by omega)]
    have e : (l.take j).map to30 ++ [to30 l[j]] = (l.take (j + 1)).map to30 := by rw [List.take_succ_eq_append_getElem hlt, List.map_append]; rfl
    rw [e]
    exact ih (j + 1) (by omega) (by omega) n (by omega)
theorem list_f (l : List S27) (hl : l.length ≤ 1000000000000) (hs : ∀ x ∈ l, x.f1.size ≤ 140737488351232 ∧ x.f2.size ≤ 140737488351232) :
    ∃ b k, laws_verList.f k l = some (if b = true then (l.map to30, true) else ([], false)) ∧ (b = true → l.length ≤ 20 ∧ ∀ x ∈ l, RightV x.f0 x.f1 x.f2) := by
  obtain ⟨b, k0, h1, h2⟩ := all_f l hl hs
  cases b with
  | false => exact ⟨false, k0, by rw [laws_verList.f, h1 k0 (Nat.le_refl _)]; rfl, h2⟩
  | true =>
    obtain ⟨h3, _⟩ := h2 rfl
    refine ⟨true, k0 + l.length + 1, ?_, h2⟩
    rw [laws_verList.f, h1 _ (by omega)]
    rw [Option.bind_some, if_pos rfl]

    exact list_loop l (by omega) l.length 0 (Nat.zero_le _) (by omega) _ (by omega)
theorem fits_loop (l : List S27) (hl : l.length ≤ 1000000000000) (d : Nat) : ∀ j : Nat, j ≤ l.length → l.length - j = d →
    ∃ b, (∀ n, d < n → laws_zzFits3.l0 n l (l.length : Int) (j : Int) = some b) ∧ (b = true → ∀ x ∈ l.drop j, x.f1.size ≤ 2147483647 ∧ x.f2.size ≤ 2147483647) := by
  induction d with
  | zero =>
    intro j hj hd
    refine ⟨true, fun n hn => ?_, fun _ x hx => ?_⟩
    · obtain ⟨n, rfl⟩ : ∃ i, n = i + 1 := ⟨n - 1, by omega⟩
      rw [laws_zzFits3.l0, if_neg (by omega)]
    · rw [List.drop_eq_nil_of_le (by omega)] at hx; cases hx
  | succ d ih =>
    intro j hj hd
    have hlt : j < l.length := by omega
    obtain ⟨b, h1, h2⟩ := ih (j + 1) (by omega) (by omega)
    have w1 := next64 j (by omega)
    by_cases c1 : (l[j].f1.size : Int) > 2147483647
    · refine ⟨false, fun n hn => ?_, fun h => by cases h⟩
      obtain ⟨n, rfl⟩ : ∃ i, n = i + 1 := ⟨n - 1, by omega⟩
      rw [laws_zzFits3.l0, if_pos (by omega), if_pos (by omega), if_pos (by omega), rd27 l j hlt, laws_zzFits1.f, if_pos c1]; rfl
    · by_cases c2 : (l[j].f2.size : Int) > 2147483647
      · refine ⟨false, fun n hn => ?_, fun h => by cases h⟩
        obtain ⟨n, rfl⟩ : ∃ i, n = i + 1 := ⟨n - 1, by omega⟩
        rw [laws_zzFits3.l0, if_pos (by omega), if_pos (by omega), if_pos (by omega), rd27 l j hlt, laws_zzFits1.f, if_neg c1, if_pos c2]; rfl
      · refine ⟨b, fun n hn => ?_, fun h x hx => ?_⟩
        · obtain ⟨n, rfl⟩ : ∃ i, n = i + 1 := ⟨n - 1, by omega⟩
          rw [laws_zzFits3.l0, if_pos (by omega), if_pos (by omega), if_pos (by omega), rd27 l j hlt, laws_zzFits1.f, if_neg c1, if_neg c2]
          rw [Option.bind_some, if_pos rfl]
          rw [w1]
          exact h1 n (by omega)
        · rw [List.drop_eq_getElem_cons hlt] at hx
          rcases List.mem_cons.1 hx with rfl | hx
          · omega
          · exact h2 h x hx
theorem fits_f (l : List S27) : ∃ b k, laws_zzFits3.f k l = some b ∧ (b = true → l.length ≤ 2147483647 ∧ ∀ x ∈ l, x.f1.size ≤ 2147483647 ∧ x.f2.size ≤ 2147483647) := by
  by_cases h : (l.length : Int) > 2147483647
  · exact ⟨false, 0, by rw [laws_zzFits3.f, if_pos h], fun h => by cases h⟩
  · obtain ⟨b, h1, h2⟩ := fits_loop l (by omega) l.length 0 (Nat.zero_le _) (by omega)
    exact ⟨b, l.length + 1, by rw [laws_zzFits3.f, if_neg h]; exact h1 _ (by omega), fun hb => ⟨by omega, by have := h2 hb; rwa [List.drop_zero] at this⟩⟩
theorem same_loop (l : List S27) (hl : l.length ≤ 1000000) (d : Nat) : ∀ (j : Nat), j ≤ l.length → l.length - j = d → ∀ n, d < n →
    laws_verSorted.l0 n l (l.map to30) (l.length : Int) (j : Int) = some true := by
  induction d with
  | zero =>
    intro j hj hd n hn
    obtain ⟨n, rfl⟩ : ∃ i, n = i + 1 := ⟨n - 1, by omega⟩
    rw [laws_verSorted.l0, if_neg (by omega)]
  | succ d ih =>
    intro j hj hd n hn
    obtain ⟨n, rfl⟩ : ∃ i, n = i + 1 := ⟨n - 1, by omega⟩
    have hlt : j < l.length := by omega
    have hm : (j : Int) < ((l.map to30).length : Int) := by rw [List.length_map]; omega
    rw [laws_verSorted.l0, if_pos (by omega), if_pos (by omega), if_pos (by omega), rd27 l j hlt, rd30 _ j (by rw [List.length_map]; exact hlt), List.getElem_map]
    show (if (j : Int) < ((l.map to30).length : Int) then (if (!(l[j].f0 == l[j].f0) || (!(l[j].f1.toList == l[j].f1.toList) || !(l[j].f2.toList == l[j].f2.toList))) = true then some false else laws_verSorted.l0 n l (l.map to30) (l.length : Int) (wrap64 ((j : Int) + 1))) else none) = _
    rw [if_pos hm, if_neg (by simp), next64 j (by omega)]
    exact ih (j + 1) (by omega) (by omega) n (by omega)
theorem same_f (l : List S27) (hl : l.length ≤ 1000000) : laws_verSorted.f (l.length + 1) l (l.map to30) = some true := by
  rw [laws_verSorted.f, if_pos (by rw [List.length_map])]
  exact same_loop l hl l.length 0 (Nat.zero_le _) (by omega) _ (by omega)
end Go.Proofs.YtgoeiflddikihaaGreatDoor.Ver
end
section
namespace Go.Proofs.YtgoeiflddikihaaGreatDoor.Ver
set_option linter.unusedSimpArgs false
open Go.RowKit Go.Proofs.YtgoeiflddikihaaGreatDoor.PFnVersion Go.Proofs.YtgoeiflddikihaaGreatDoorW.PrintWords Go.Proofs.YtgoeiflddikihaaGreatDoor.Ord
theorem isDig_same : Ver.isDig = Ord.isDig := rfl
theorem vdigits_any (s : ByteArray) (hn : s.size ≤ 140737488351232) (w : World) : Calls Tryz.prog 100 #[.string s] w fun e w' => e = .returned (.bool (idNum s.data.toList)) ∧ Drawn0 w w' := by
  refine spec_verDigits.calls (s.size + 1) s _ w ?_
  have hd := digits_tells s hn s.size 0 (Nat.zero_le _) (by omega) (s.size + 1) (by omega)
  refine Eq.trans hd ?_
  congr 1
  unfold idNum
  rw [List.drop_zero]
  cases h : s.data.toList with
  | nil => have : s.data.toList.length = 0 := by rw [h]; rfl
           rw [Array.length_toList] at this; have h2 : s.data.size = s.size := rfl
           rw [decide_eq_false (by omega)]; rfl
  | cons c r => simp [isDig_same]
theorem amount_tells (d : Nat) : ∀ s : ByteArray, s.size ≤ d → s.size ≤ 140737488351232 → ∀ k, d < k → spec_verAmount.l0 k s = some (mkB (bareZ s.data.toList)) := by
  induction d with
  | zero =>
    intro s hs _ k hk
    obtain ⟨k, rfl⟩ : ∃ j, k = j + 1 := ⟨k - 1, by omega⟩
    rw [spec_verAmount.l0, if_neg (by omega)]
    have h : s.data.toList = [] := by
      cases h : s.data.toList with
      | nil => rfl
      | cons _ _ => have : s.data.toList.length = s.size := by rw [Array.length_toList]; rfl
                    rw [h] at this; simp at this; omega
    rw [h]; congr 1; exact mkB_of h
  | succ d ih =>
    intro s hs hn k hk
    obtain ⟨k, rfl⟩ : ∃ j, k = j + 1 := ⟨k - 1, by omega⟩
    have hl : s.data.toList.length = s.size := by rw [Array.length_toList]; rfl
    rw [spec_verAmount.l0]
    cases h : s.data.toList with
    | nil => rw [h] at hl; simp at hl; rw [if_neg (by omega)]; congr 1; rw [bareZ]; exact mkB_of h; intro _ _ _ hx; cases hx
    | cons c r =>
      cases r with
      | nil => rw [h] at hl; simp at hl; rw [if_neg (by omega)]; congr 1; rw [bareZ]; exact mkB_of h; intro _ _ _ hx; cases hx
      | cons e r =>
        rw [h] at hl; simp at hl
        have h0 : 0 < s.size := by omega
        have hb : bt s 0 = (c.toNat : Int) := by
          have h1 := bt_nat s 0 h0
          have h2 : s[0] = c := by
            have : s.data.toList[0]? = some c := by rw [h]; rfl
            have h3 : s.data.toList[0]? = some s[0] := by rw [List.getElem?_eq_getElem (by rw [Array.length_toList]; exact h0)]; rfl
            rw [h3] at this; exact Option.some.inj this
          rw [← h2]; exact h1
        rw [if_pos (by omega), if_pos (by omega)]
        by_cases hc : c = 48
        · subst hc
          rw [hb, if_pos (show (((48 : UInt8).toNat : Int)) = 48 from rfl), if_pos (by omega), bareZ, if_pos rfl]
          have hx : s.extract 1 s.size = mkB (e :: r) := mkB_of (by
            rw [drop_data, h]; rfl)
          have := ih (s.extract 1 s.size) (by rw [hx]; show (e :: r).toArray.size ≤ d; simp; omega) (by rw [hx]; show (e :: r).toArray.size ≤ _; simp; omega) k (by omega)
          rw [hx] at this
          rw [hx]
          exact this
        · rw [hb, if_neg (fun hh => hc (UInt8.toNat_inj.1 (by have : (48 : UInt8).toNat = 48 := rfl; omega))), bareZ, if_neg hc]
          congr 1; exact mkB_of h
theorem vamount_any (s : ByteArray) (hn : s.size ≤ 140737488351232) (w : World) : Calls Tryz.prog 125 #[.string s] w fun e w' => e = .returned (.string (mkB (bareZ s.data.toList))) ∧ Drawn0 w w' :=
  spec_verAmount.calls (s.size + 1) s _ w (amount_tells s.size s (Nat.le_refl _) hn (s.size + 1) (by omega))
theorem vsign_any (b : Bool) (w : World) : Calls Tryz.prog 105 #[.bool b] w fun e w' => e = .returned (.int .i64 (if b = true then -1 else 1)) ∧ Drawn0 w w' :=
  spec_verSign.calls b _ w (by unfold spec_verSign.f; cases b <;> rfl)
set_option maxHeartbeats 2000000 in
theorem vident_any (a b : ByteArray) (ha : a.size ≤ 140737488351232) (hb : b.size ≤ 140737488351232) (w : World) :
    Calls Tryz.prog 106 #[.string a, .string b] w fun e w' => e = .returned (.int .i64 (idC a.data.toList b.data.toList)) ∧ Drawn0 w w' := by
  have HD := Lib.hid (fun (s : ByteArray) (h : s.size ≤ 140737488351232) W => vdigits_any s h W)
  have HA := Lib.hid (fun (s : ByteArray) (h : s.size ≤ 140737488351232) W => vamount_any s h W)
  have HS := Lib.hid (fun b W => vsign_any b W)
  have key : ∀ x y : ByteArray, bytesC x.data.toList y.data.toList = if x.toList = y.toList then 0 else if Op.bytesLess x.toList y.toList = true then -1 else 1 := by
    intro x y
    rw [bytesC_form, ByteArray.toList_eq, ByteArray.toList_eq]
    by_cases h1 : Op.bytesLess x.data.toList y.data.toList = true
    · rw [if_pos h1, if_neg, if_pos h1]
      intro e
      have := (bytesC_less x.data.toList y.data.toList).2 h1
      rw [e, cmp_bytes.refl] at this; omega
    · rw [if_neg h1]; split <;> simp [h1, *]
  cases h1 : idNum a.data.toList <;> cases h2 : idNum b.data.toList
  · rw [idC_aa h1 h2, key]
    have H1 := Lib.hid h1
    have H2 := Lib.hid h2
    have HA0 := Lib.hid ha
    have HB0 := Lib.hid hb
    clear h1 h2 ha hb key
    by_cases he : a.toList = b.toList
    · have e1 : (a.toList == b.toList) = true := beq_iff_eq.2 he
      rw [if_pos he]
      clear he
      go_enter Tryz.func106, Tryz.ntmps106
      go_wp2_with (first | (go_at_call 100; ((with_reducible first | refine (HD.out a HA0.out _).mono ?_ | refine (HD.out b HB0.out _).mono ?_); rintro e w' ⟨rfl, ⟨nq, rfl⟩⟩; (first | rw [H1.out] | rw [H2.out]))) | (go_at_call 105; ((with_reducible refine (HS.out _ _).mono ?_); rintro e w' ⟨rfl, ⟨nq, rfl⟩⟩; simp only [if_true, if_false, Bool.false_eq_true, reduceCtorEq, ite_true, ite_false])))
      go_ret
      exact ⟨rfl, by repeat (first | exact Drawn0.refl _ | apply Drawn0.step)⟩
    · have e1 : (a.toList == b.toList) = false := beq_eq_false_iff_ne.2 he
      rw [if_neg he]
      clear he
      cases e2 : Op.bytesLess a.toList b.toList
      · rw [if_neg (by decide)]
        go_enter Tryz.func106, Tryz.ntmps106
        go_wp2_with (first | (go_at_call 100; ((with_reducible first | refine (HD.out a HA0.out _).mono ?_ | refine (HD.out b HB0.out _).mono ?_); rintro e w' ⟨rfl, ⟨nq, rfl⟩⟩; (first | rw [H1.out] | rw [H2.out]))) | (go_at_call 105; ((with_reducible refine (HS.out _ _).mono ?_); rintro e w' ⟨rfl, ⟨nq, rfl⟩⟩; simp only [if_true, if_false, Bool.false_eq_true, reduceCtorEq, ite_true, ite_false])))
        go_ret
        exact ⟨rfl, by repeat (first | exact Drawn0.refl _ | apply Drawn0.step)⟩
      · rw [if_pos rfl]
        go_enter Tryz.func106, Tryz.ntmps106
        go_wp2_with (first | (go_at_call 100; ((with_reducible first | refine (HD.out a HA0.out _).mono ?_ | refine (HD.out b HB0.out _).mono ?_); rintro e w' ⟨rfl, ⟨nq, rfl⟩⟩; (first | rw [H1.out] | rw [H2.out]))) | (go_at_call 105; ((with_reducible refine (HS.out _ _).mono ?_); rintro e w' ⟨rfl, ⟨nq, rfl⟩⟩; simp only [if_true, if_false, Bool.false_eq_true, reduceCtorEq, ite_true, ite_false])))
        go_ret
        exact ⟨rfl, by repeat (first | exact Drawn0.refl _ | apply Drawn0.step)⟩
  · rw [idC_an h1 h2]
    have H1 := Lib.hid h1
    have H2 := Lib.hid h2
    have HA0 := Lib.hid ha
    have HB0 := Lib.hid hb
    clear h1 h2 ha hb key
    go_enter Tryz.func106, Tryz.ntmps106
    go_wp2_with (first | (go_at_call 100; ((with_reducible first | refine (HD.out a HA0.out _).mono ?_ | refine (HD.out b HB0.out _).mono ?_); rintro e w' ⟨rfl, ⟨nq, rfl⟩⟩; (first | rw [H1.out] | rw [H2.out]))) | (go_at_call 105; ((with_reducible refine (HS.out _ _).mono ?_); rintro e w' ⟨rfl, ⟨nq, rfl⟩⟩; simp only [if_true, if_false, Bool.false_eq_true, reduceCtorEq, ite_true, ite_false])))
    go_ret
    exact ⟨rfl, by repeat (first | exact Drawn0.refl _ | apply Drawn0.step)⟩
  · rw [idC_na h1 h2]
    have H1 := Lib.hid h1
    have H2 := Lib.hid h2
    have HA0 := Lib.hid ha
    have HB0 := Lib.hid hb
    clear h1 h2 ha hb key
    go_enter Tryz.func106, Tryz.ntmps106
    go_wp2_with (first | (go_at_call 100; ((with_reducible first | refine (HD.out a HA0.out _).mono ?_ | refine (HD.out b HB0.out _).mono ?_); rintro e w' ⟨rfl, ⟨nq, rfl⟩⟩; (first | rw [H1.out] | rw [H2.out]))) | (go_at_call 105; ((with_reducible refine (HS.out _ _).mono ?_); rintro e w' ⟨rfl, ⟨nq, rfl⟩⟩; simp only [if_true, if_false, Bool.false_eq_true, reduceCtorEq, ite_true, ite_false])))
    go_ret
    exact ⟨rfl, by repeat (first | exact Drawn0.refl _ | apply Drawn0.step)⟩
  · rw [idC_nn h1 h2]
    have H1 := Lib.hid h1
    have H2 := Lib.hid h2
    have HA0 := Lib.hid ha
    have HB0 := Lib.hid hb
    have hA := fun W => HA.out a ha W
    have hB := fun W => HA.out b hb W
    have k := key (mkB (bareZ a.data.toList)) (mkB (bareZ b.data.toList))
    have s1 : (bareZ a.data.toList).length = (mkB (bareZ a.data.toList)).size := by show _ = (bareZ a.data.toList).toArray.size; rw [List.size_toArray]
    have s2 : (bareZ b.data.toList).length = (mkB (bareZ b.data.toList)).size := by show _ = (bareZ b.data.toList).toArray.size; rw [List.size_toArray]
    rw [show (mkB (bareZ a.data.toList)).data.toList = bareZ a.data.toList from rfl, show (mkB (bareZ b.data.toList)).data.toList = bareZ b.data.toList from rfl] at k
    rw [k, s1, s2]
    clear k s1 s2 h1 h2 ha hb key HA
    generalize mkB (bareZ a.data.toList) = A at *
    generalize mkB (bareZ b.data.toList) = B at *
    have HAa := Lib.hid hA
    have HAb := Lib.hid hB
    clear hA hB
    by_cases hs : A.size = B.size
    · have d1 : ((A.size : Int) == B.size) = true := beq_iff_eq.2 (by rw [hs])
      have d2 : ((A.size : Int) != B.size) = false := bne_eq_false_iff_eq.2 (by rw [hs])
      have d3 : (A.size == B.size) = true := beq_iff_eq.2 hs
      have d4 : (A.size != B.size) = false := bne_eq_false_iff_eq.2 hs
      rw [if_pos hs]
      clear hs
      by_cases he : A.toList = B.toList
      · have e1 : (A.toList == B.toList) = true := beq_iff_eq.2 he
        rw [if_pos he]
        clear he
        go_enter Tryz.func106, Tryz.ntmps106
        go_wp2_with (first | (go_at_call 100; ((with_reducible first | refine (HD.out a HA0.out _).mono ?_ | refine (HD.out b HB0.out _).mono ?_); rintro e w' ⟨rfl, ⟨nq, rfl⟩⟩; (first | rw [H1.out] | rw [H2.out]))) | (go_at_call 105; ((with_reducible refine (HS.out _ _).mono ?_); rintro e w' ⟨rfl, ⟨nq, rfl⟩⟩; simp only [if_true, if_false, Bool.false_eq_true, reduceCtorEq, ite_true, ite_false])) | (go_at_call 125; ((with_reducible first | refine (HAa.out _).mono ?_ | refine (HAb.out _).mono ?_); rintro e w' ⟨rfl, ⟨nq, rfl⟩⟩)))
        go_ret
        exact ⟨rfl, by repeat (first | exact Drawn0.refl _ | apply Drawn0.step)⟩
      · have e1 : (A.toList == B.toList) = false := beq_eq_false_iff_ne.2 he
        rw [if_neg he]
        clear he
        cases e2 : Op.bytesLess A.toList B.toList
        · rw [if_neg (by decide)]
          go_enter Tryz.func106, Tryz.ntmps106
          go_wp2_with (first | (go_at_call 100; ((with_reducible first | refine (HD.out a HA0.out _).mono ?_ | refine (HD.out b HB0.out _).mono ?_); rintro e w' ⟨rfl, ⟨nq, rfl⟩⟩; (first | rw [H1.out] | rw [H2.out]))) | (go_at_call 105; ((with_reducible refine (HS.out _ _).mono ?_); rintro e w' ⟨rfl, ⟨nq, rfl⟩⟩; simp only [if_true, if_false, Bool.false_eq_true, reduceCtorEq, ite_true, ite_false])) | (go_at_call 125; ((with_reducible first | refine (HAa.out _).mono ?_ | refine (HAb.out _).mono ?_); rintro e w' ⟨rfl, ⟨nq, rfl⟩⟩)))
          go_ret
          exact ⟨rfl, by repeat (first | exact Drawn0.refl _ | apply Drawn0.step)⟩
        · rw [if_pos rfl]
          go_enter Tryz.func106, Tryz.ntmps106
          go_wp2_with (first | (go_at_call 100; ((with_reducible first | refine (HD.out a HA0.out _).mono ?_ | refine (HD.out b HB0.out _).mono ?_); rintro e w' ⟨rfl, ⟨nq, rfl⟩⟩; (first | rw [H1.out] | rw [H2.out]))) | (go_at_call 105; ((with_reducible refine (HS.out _ _).mono ?_); rintro e w' ⟨rfl, ⟨nq, rfl⟩⟩; simp only [if_true, if_false, Bool.false_eq_true, reduceCtorEq, ite_true, ite_false])) | (go_at_call 125; ((with_reducible first | refine (HAa.out _).mono ?_ | refine (HAb.out _).mono ?_); rintro e w' ⟨rfl, ⟨nq, rfl⟩⟩)))
          go_ret
          exact ⟨rfl, by repeat (first | exact Drawn0.refl _ | apply Drawn0.step)⟩
    · have d1 : ((A.size : Int) == B.size) = false := beq_eq_false_iff_ne.2 (by omega)
      have d2 : ((A.size : Int) != B.size) = true := bne_iff_ne.2 (by omega)
      have d3 : (A.size == B.size) = false := beq_eq_false_iff_ne.2 hs
      have d4 : (A.size != B.size) = true := bne_iff_ne.2 hs
      rw [if_neg hs]
      clear hs
      by_cases hl : A.size < B.size
      · have d5 : decide ((A.size : Int) < B.size) = true := decide_eq_true (by omega)
        have d6 : decide (A.size < B.size) = true := decide_eq_true hl
        rw [if_pos hl]
        clear hl
        go_enter Tryz.func106, Tryz.ntmps106
        go_wp2_with (first | (go_at_call 100; ((with_reducible first | refine (HD.out a HA0.out _).mono ?_ | refine (HD.out b HB0.out _).mono ?_); rintro e w' ⟨rfl, ⟨nq, rfl⟩⟩; (first | rw [H1.out] | rw [H2.out]))) | (go_at_call 105; ((with_reducible refine (HS.out _ _).mono ?_); rintro e w' ⟨rfl, ⟨nq, rfl⟩⟩; simp only [if_true, if_false, Bool.false_eq_true, reduceCtorEq, ite_true, ite_false])) | (go_at_call 125; ((with_reducible first | refine (HAa.out _).mono ?_ | refine (HAb.out _).mono ?_); rintro e w' ⟨rfl, ⟨nq, rfl⟩⟩)))
        go_ret
        exact ⟨rfl, by repeat (first | exact Drawn0.refl _ | apply Drawn0.step)⟩
      · have d5 : decide ((A.size : Int) < B.size) = false := decide_eq_false (by omega)
        have d6 : decide (A.size < B.size) = false := decide_eq_false hl
        rw [if_neg hl]
        clear hl
        go_enter Tryz.func106, Tryz.ntmps106
        go_wp2_with (first | (go_at_call 100; ((with_reducible first | refine (HD.out a HA0.out _).mono ?_ | refine (HD.out b HB0.out _).mono ?_); rintro e w' ⟨rfl, ⟨nq, rfl⟩⟩; (first | rw [H1.out] | rw [H2.out]))) | (go_at_call 105; ((with_reducible refine (HS.out _ _).mono ?_); rintro e w' ⟨rfl, ⟨nq, rfl⟩⟩; simp only [if_true, if_false, Bool.false_eq_true, reduceCtorEq, ite_true, ite_false])) | (go_at_call 125; ((with_reducible first | refine (HAa.out _).mono ?_ | refine (HAb.out _).mono ?_); rintro e w' ⟨rfl, ⟨nq, rfl⟩⟩)))
        go_ret
        exact ⟨rfl, by repeat (first | exact Drawn0.refl _ | apply Drawn0.step)⟩
end Go.Proofs.YtgoeiflddikihaaGreatDoor.Ver
end
