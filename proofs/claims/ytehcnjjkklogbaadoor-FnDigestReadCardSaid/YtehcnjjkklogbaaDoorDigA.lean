/- Plain lemmas and walks for digests: zzIndex at a colon, zzSplit at colons, zzBytes. No condition but the texts' sizes. -/
import Derived.Test.YtehcnjjkklogbaaDoorDigP
import Derived.Test.YtehcnjjkklogbaaDoorPFnDigestx2
import Derived.Test.YtehcnjjkklogbaaDoorPFnDigestx4
import Derived.Deep.RegionLaw
import Derived.Lib.Hide
import Derived.Lib.QuietBelow
namespace Go.Proofs.YtehcnjjkklogbaaDoor.Dig
open Go.RowKit Go.Proofs.YtehcnjjkklogbaaDoor.PFnDigest Go.Proofs.YtehcnjjkklogbaaDoorW.PrintWords

/-- The pieces of a text between its colons. -/
def parts : List UInt8 → List (List UInt8)
  | [] => [[]]
  | c :: r => if c = 58 then [] :: parts r else match parts r with
    | [] => [[c]]
    | p :: ps => (c :: p) :: ps
theorem parts_ne (l : List UInt8) : parts l ≠ [] := by
  cases l with
  | nil => simp [parts]
  | cons c r => unfold parts; split; simp; split <;> simp
theorem parts_none (l : List UInt8) (h : 58 ∉ l) : parts l = [l] := by
  induction l with
  | nil => rfl
  | cons c r ih =>
    simp only [List.mem_cons, not_or] at h
    unfold parts
    rw [if_neg (fun e => h.1 e.symm), ih h.2]
theorem parts_at (a b : List UInt8) (h : 58 ∉ a) : parts (a ++ 58 :: b) = a :: parts b := by
  induction a with
  | nil => simp [parts]
  | cons c r ih =>
    simp only [List.mem_cons, not_or] at h
    rw [List.cons_append, parts, if_neg (fun e => h.1 e.symm), ih h.2]

/-- The place of the first colon; the length where there is none. -/
def colon (l : List UInt8) : Nat := (l.takeWhile (· != 58)).length
theorem colon_le (l : List UInt8) : colon l ≤ l.length := by
  unfold colon
  induction l with
  | nil => simp
  | cons c r ih => rw [List.takeWhile_cons]; split <;> simp; omega
theorem colon_not (l : List UInt8) : 58 ∉ l.take (colon l) := by
  unfold colon
  induction l with
  | nil => simp
  | cons c r ih =>
    rw [List.takeWhile_cons]
    split
    · rename_i h; simp at h; simp [ih, Ne.symm h]
    · simp
theorem colon_at (l : List UInt8) (h : colon l < l.length) : l[colon l] = 58 := by
  unfold colon at *
  induction l with
  | nil => simp at h
  | cons c r ih =>
    rw [List.takeWhile_cons] at h
    by_cases hc : c = 58
    · subst hc; simp
    · simp [hc] at h ⊢
      exact ih (by omega)
theorem parts_colon (l : List UInt8) (h : colon l < l.length) : parts l = l.take (colon l) :: parts (l.drop (colon l + 1)) := by
  have e : l = l.take (colon l) ++ 58 :: l.drop (colon l + 1) := by
    rw [← colon_at l h, List.drop_eq_getElem_cons h |>.symm, List.take_append_drop]
  conv => lhs; rw [e]
  exact parts_at _ _ (colon_not l)
theorem parts_end (l : List UInt8) (h : ¬ colon l < l.length) : parts l = [l] := by
  refine parts_none l ?_
  have h1 := colon_le l
  have h2 := colon_not l
  rw [show colon l = l.length by omega, List.take_length] at h2
  exact h2

theorem wrap_in {i : Int} (h0 : -9223372036854775808 ≤ i) (h : i ≤ 9223372036854775807) : wrap64 i = i := by
  unfold wrap64
  omega

def colonAns (s : ByteArray) : Int := if colon s.data.toList < s.size then (colon s.data.toList : Int) else -1

theorem extract_one (s : ByteArray) (i : Nat) (h : i < s.size) : (s.extract i (i + 1)).toList = [s[i]] := by
  rw [ByteArray.toList_eq, ByteArray.data_extract, Array.toList_extract]
  simp only [List.extract_eq_take_drop]
  have hl : i < s.data.toList.length := by rw [Array.length_toList]; exact h
  rw [show i + 1 - i = 1 by omega, List.drop_eq_getElem_cons hl]
  rfl

theorem index_tells (s : ByteArray) (hn : s.size ≤ 140737488351232) (d : Nat) : ∀ (k i : Nat), i ≤ s.size → s.size - i = d → d < k → 58 ∉ s.data.toList.take i →
    verify_zzIndex.l0 k s ⟨#[58]⟩ (i : Int) = some (colonAns s) := by
  have h1 : ((⟨#[58]⟩ : ByteArray).size : Int) = 1 := by rfl
  induction d with
  | zero =>
    intro k i hi hd hk hno
    obtain ⟨k, rfl⟩ : ∃ m, k = m + 1 := ⟨k - 1, by omega⟩
    simp only [verify_zzIndex.l0]
    rw [h1, wrap_in (by omega) (by omega), if_neg (by omega)]
    have : ¬ colon s.data.toList < s.size := by
      intro hc
      have hc' : colon s.data.toList < s.data.toList.length := by rw [Array.length_toList]; exact hc
      refine hno ?_
      rw [List.take_of_length_le (by rw [Array.length_toList]; exact (by omega : s.size ≤ i))]
      rw [← colon_at _ hc']; exact List.getElem_mem _
    unfold colonAns
    rw [if_neg this]
  | succ d ih =>
    intro k i hi hd hk hno
    obtain ⟨k, rfl⟩ : ∃ m, k = m + 1 := ⟨k - 1, by omega⟩
    have hlt : i < s.size := by omega
    have hl : i < s.data.toList.length := by rw [Array.length_toList]; exact hlt
    simp only [verify_zzIndex.l0]
    rw [h1, wrap_in (by omega) (by omega), if_pos (by omega), if_pos (by omega), if_pos (by omega)]
    rw [show ((i : Int) + 1).toNat = i + 1 by omega, show (i : Int).toNat = i by omega, extract_one s i hlt]
    by_cases hc : s[i] = 58
    · rw [if_pos (by rw [hc, ByteArray.toList_eq])]
      have : colon s.data.toList = i := by
        have e : s.data.toList = s.data.toList.take i ++ 58 :: s.data.toList.drop (i + 1) := by
          rw [← hc]
          have := List.drop_eq_getElem_cons hl
          conv => lhs; rw [← List.take_append_drop i s.data.toList, this]
          rfl
        unfold colon
        rw [e, List.takeWhile_append_of_pos (by
          intro x hx
          simp only [bne_iff_ne, ne_eq]
          rintro rfl
          exact hno hx)]
        simp
        omega
      unfold colonAns
      rw [this, if_pos hlt]
    · rw [if_neg (by
        intro h
        rw [ByteArray.toList_eq] at h
        have : [s[i]] = [(58 : UInt8)] := h
        exact hc (by simpa using this))]
      refine ih k (i + 1) (by omega) (by omega) (by omega) ?_
      rw [List.take_succ_eq_append_getElem hl]
      simp only [List.mem_append, List.mem_singleton, not_or]
      exact ⟨hno, fun e => hc e.symm⟩

theorem index_any (s : ByteArray) (hn : s.size ≤ 140737488351232) (w : World) : Calls Tryd.prog 21 #[.string s, .string ⟨#[58]⟩] w fun e w' => e = .returned (.int .i64 (colonAns s)) ∧ ∃ n, w' = w.drewN n :=
  (verify_zzIndex.calls (s.size + 1) s ⟨#[58]⟩ _ w (index_tells s hn s.size (s.size + 1) 0 (by omega) (by omega) (by omega) (by simp))).mono fun _ _ ⟨h, hd⟩ => ⟨h, hd.out⟩


theorem below_trans {a b c : World} (h : Below a.heap.size a b) (k : Below b.heap.size b c) : Below a.heap.size a c := h.trans (k.mono h.size)
theorem info9 : (Tryd.prog.info? 9).map (fun i => (i.zero, i.size, i.bytes)) = some (some (.string ByteArray.empty), 1, 16) := by kernel_rfl

def texts (l : List (List UInt8)) : List ByteArray := l.map fun p => ⟨p.toArray⟩

/-- What zzSplit hands back: a row of the call's own that reads as the pieces. -/
def Splitted (s : ByteArray) (w : World) (e : Ending) (w' : World) : Prop :=
  ∃ v, e = .returned v ∧ Kd.string.R 9 w' w.heap.size (fun _ => True) v (texts (parts s.data.toList)) ∧ Below w.heap.size w w'

theorem index_below (s : ByteArray) (hn : s.size ≤ 140737488351232) (w : World) : Calls Tryd.prog 21 #[.string s, .string ⟨#[58]⟩] w fun e w' => e = .returned (.int .i64 (colonAns s)) ∧ Below w.heap.size w w' :=
  (index_any s hn w).mono fun _ _ ⟨h, n, hd⟩ => ⟨h, by rw [hd]; exact pw_below_drewN (Below.refl _ _) n⟩

theorem split_step {s r : ByteArray} {l : List ByteArray} {j : Nat} (hp : texts (parts s.data.toList) = l ++ texts (parts r.data.toList)) (hj : colon r.data.toList = j) (hc : j < r.size) :
    texts (parts s.data.toList) = l ++ [r.extract 0 j] ++ texts (parts (r.extract (j + 1) r.size).data.toList) := by
  have hl : colon r.data.toList < r.data.toList.length := by rw [hj, Array.length_toList]; exact hc
  rw [hp, parts_colon _ hl, hj]
  have e1 : (r.extract 0 j) = ⟨(r.data.toList.take j).toArray⟩ := by
    apply ByteArray.ext
    rw [ByteArray.data_extract]
    apply Array.ext'
    simp [List.extract_eq_take_drop]
  have e2 : (r.extract (j + 1) r.size).data.toList = r.data.toList.drop (j + 1) := by
    rw [ByteArray.data_extract, Array.toList_extract]
    simp only [List.extract_eq_take_drop]
    exact List.take_of_length_le (by rw [List.length_drop, Array.length_toList]; exact Nat.le_refl _)
  rw [e1, e2]
  simp [texts]

def strLen : Value → Nat | .string r => r.size | _ => 0

def SplitRel (s : ByteArray) (w : World) (v0 v5 : Value) (wr : World) : Prop :=
  ∃ (r : ByteArray) (l : List ByteArray) (v : Value), v0 = .string r ∧ v5 = v ∧ Kd.string.R 9 wr w.heap.size (fun _ => True) v l ∧ texts (parts s.data.toList) = l ++ texts (parts r.data.toList) ∧ l.length + r.size ≤ s.size ∧ Below w.heap.size w wr

theorem split_any (s : ByteArray) (hs : s.size ≤ 2147483647) (w : World) : Calls Tryd.prog 15 #[.string s, .string ⟨#[58]⟩] w (Splitted s w) := by
  have h1 : (⟨#[58]⟩ : ByteArray).size = 1 := rfl
  go_enter Tryd.func15, Tryd.ntmps15
  go_wp2
  go_loopw [0, 5] (fun v0 v5 wr => SplitRel s w v0 v5 wr) (fun v0 _ _ => strLen v0)
  case atStart => exact ⟨s, [], _, rfl, rfl, Kd.R_nil _ _ _ _ _, rfl, by simp, Below.refl _ _⟩
  case round =>
    obtain ⟨r, l, v, rfl, rfl, hr, hp, hl, hb⟩ := hrel
    have HP := Lib.hid hp
    clear hp
    by_cases hc : colon r.data.toList < r.size
    · have hca : colonAns r = (colon r.data.toList : Int) := by unfold colonAns; rw [if_pos hc]
      have c1 := fun w => index_below r (by omega) w
      rw [hca] at c1
      have C1 := Lib.hid c1
      clear c1 hca
      generalize hj : colon r.data.toList = j at *
      have HJ := Lib.hid hj
      clear hj
      go_wp2_with (first
        | (go_at_call 21; ((with_reducible refine (C1.out _).mono ?_); rintro e w1 ⟨rfl, hb1⟩; have hr1 := Aside0.mk (Kd.R_below hr hb1); have hb2 := Aside0.mk (below_trans hb hb1); clear hr hb hb1))
        | (at_builtin; refine Kd.R_append Kd.string (w0 := w) w.heap.size rfl (.tmp 46) (.tmp 50) 30 9 (.string ByteArray.empty) 16 rfl Tryd.underlying30 info9 rfl (by decide) (by omega) u5 l (r.extract 0 j) [.string (r.extract 0 j)] (fun _ => True) (fun _ => False) rfl rfl ?aP (fun _ hk => hk.elim) ?aF ?aO ?aB ?aS ?aL ?_; (case aP => exact rfl); (case aF => exact fun _ _ => trivial); (case aO => exact hr1.out); (case aB => exact hb2.out); (case aS => exact hb2.out.size); (case aL => omega); intro v6 w2 hr2 hb3 _ _))
      go_roundw
      case rel => exact ⟨r.extract (j + 1) r.size, _, v6, rfl, rfl, hr2, split_step HP.out HJ.out hc, by simp; omega, hb3⟩
      case measure => simp [strLen]; omega
    · have hca : colonAns r = -1 := by unfold colonAns; rw [if_neg hc]
      have c1 := fun w => index_below r (by omega) w
      rw [hca] at c1
      have C1 := Lib.hid c1
      clear c1 hca
      have HC := Lib.hid hc
      clear hc
      go_wp2_with (first
        | (go_at_call 21; ((with_reducible refine (C1.out _).mono ?_); rintro e w1 ⟨rfl, hb1⟩; have hr1 := Aside0.mk (Kd.R_below hr hb1); have hb2 := Aside0.mk (below_trans hb hb1); clear hr hb hb1))
        | (at_builtin; refine Kd.R_append Kd.string (w0 := w) w.heap.size rfl (.tmp 42) (.tmp 44) 30 9 (.string ByteArray.empty) 16 rfl Tryd.underlying30 info9 rfl (by decide) (by omega) u5 l r [.string r] (fun _ => True) (fun _ => False) rfl rfl ?aP (fun _ hk => hk.elim) ?aF ?aO ?aB ?aS ?aL ?_; (case aP => exact rfl); (case aF => exact fun _ _ => trivial); (case aO => exact hr1.out); (case aB => exact hb2.out); (case aS => exact hb2.out.size); (case aL => omega); intro v6 w2 hr2 hb3 _ _))
      go_ret
      exact ⟨v6, rfl, by rw [HP.out, parts_end _ (by rw [Array.length_toList]; exact HC.out)]; exact hr2, hb3⟩

end Go.Proofs.YtehcnjjkklogbaaDoor.Dig
