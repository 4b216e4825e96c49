/- ParseDigest and DigestText. Conditions of the contracts: the library's variables hold what the row lists. -/
import Derived.Test.YtehcnjjkklogbaaDoorDigL
import Derived.RegionTactic
import Derived.Deep.RegionLaw
namespace Go.Proofs.YtehcnjjkklogbaaDoor.Dig
open Go.RowKit Go.Proofs.YtehcnjjkklogbaaDoor.PFnDigest Go.Proofs.YtehcnjjkklogbaaDoorW.PrintWords

theorem itoa_any (n : Int) (h0 : -9223372036854775808 ≤ n) (h1 : n ≤ 9223372036854775807) (w : World) (hv : Vars w) : Calls Tryd.prog 19 #[.int .i64 n] w fun e w' => e = .returned (.string ⟨(Lib.itoa n).toArray⟩) ∧ Below w.heap.size w w' :=
  (Tryd.strconv_Itoa n h0 h1 w hv.tab).mono fun _ _ ⟨h, k, os, hw⟩ => ⟨h, by
    subst hw
    exact ⟨rfl, rfl, rfl, by simp [Sort.grow], fun j hj => by simp [Sort.grow, Array.getElem?_append]; intro h; exact absurd h (by omega)⟩⟩
theorem hex_any (l : List Int) (hl : l.length ≤ 2147483647) (h : ∀ x ∈ l, 0 ≤ x ∧ x ≤ 255) (A : Option Addr) (c : Nat) (w : World) (hr : (Kd.int .u8).C w A l.length l) (hc : l.length ≤ c) :
    Calls Tryd.prog 20 #[.slice A l.length c] w fun e w' => e = .returned (.string ⟨(hexL false l).toArray⟩) ∧ Below w.heap.size w w' :=
  verify_zzHex.calls _ A c l _ w hr hc (zzHex_f l hl h)

theorem string_any (n : Int) (h0 : -9223372036854775808 ≤ n) (h1 : n ≤ 9223372036854775807) (l : List Int) (hl : l.length ≤ 2147483647) (h : ∀ x ∈ l, 0 ≤ x ∧ x ≤ 255) (A : Option Addr) (c : Nat) (w : World) (hv : Vars w) (hr : (Kd.int .u8).C w A l.length l) (hc : l.length ≤ c) :
    Calls Tryd.prog 13 #[.agg #[.int .i64 n, .slice A l.length c]] w fun e w' => e = .returned (.string ⟨(wrote false n l).toArray⟩) ∧ Below w.heap.size w w' := by
  have w0 : Below w.heap.size w (w.alloc (.cells #[.int .i64 n, .slice A l.length c] 33)) := below_alloc (Below.refl _ _) _
  have cI : ∀ d os, Calls Tryd.prog 19 #[.int .i64 n] (Sort.grow (redrawn (w.alloc (.cells #[.int .i64 n, .slice A l.length c] 33)) d) os) fun e w'' => e = .returned (.string ⟨(Lib.itoa n).toArray⟩) ∧ ∃ p : Regrown, w'' = Sort.grow (redrawn (w.alloc (.cells #[.int .i64 n, .slice A l.length c] 33)) p.d) p.os :=
    fun d os => Calls.regrown_of (itoa_any n h0 h1 _ ((hv.below w0).below (below_regrown _ d os)))
  have cH : ∀ d os, Calls Tryd.prog 20 #[.slice A l.length c] (Sort.grow (redrawn (w.alloc (.cells #[.int .i64 n, .slice A l.length c] 33)) d) os) fun e w'' => e = .returned (.string ⟨(hexL false l).toArray⟩) ∧ ∃ p : Regrown, w'' = Sort.grow (redrawn (w.alloc (.cells #[.int .i64 n, .slice A l.length c] 33)) p.d) p.os :=
    fun d os => Calls.regrown_of (hex_any l hl h A c _ (Kd.C_below (Kd.C_below hr w0) (below_regrown _ d os)) hc)
  have k0 := cell_regrown (blk_cell (alloc_at w (.cells #[.int .i64 n, .slice A l.length c] 33)) 0)
  have k1 := cell_regrown (blk_cell (alloc_at w (.cells #[.int .i64 n, .slice A l.length c] 33)) 1)
  have l1 : (⟨(Lib.itoa n).toArray⟩ : ByteArray).size ≤ 21 := by rw [text_size]; exact Lib.itoa_length_le n h0 h1
  have l2 : (⟨(hexL false l).toArray⟩ : ByteArray).size ≤ 4294967294 := by rw [text_size, hexL_length]; omega
  have hw : (⟨(wrote false n l).toArray⟩ : ByteArray) = (⟨(Lib.itoa n).toArray⟩ ++ ⟨#[58]⟩) ++ ⟨(hexL false l).toArray⟩ := by
    rw [show (⟨#[58]⟩ : ByteArray) = ⟨([58] : List UInt8).toArray⟩ from rfl, append_lists, append_lists]; simp [wrote]
  generalize (⟨(Lib.itoa n).toArray⟩ : ByteArray) = s1 at *
  generalize (⟨(hexL false l).toArray⟩ : ByteArray) = s2 at *
  have HW := Lib.hid hw
  have CI := Lib.hid cI
  have CH := Lib.hid cH
  clear hw cI cH hr h
  have n1 : ¬ 9223372036854775807 < s1.size + 1 := by omega
  have n2 : ¬ 9223372036854775807 < s1.size + 1 + s2.size := by omega
  go_enter Tryd.func13, Tryd.ntmps13
  go_wp2
  refine wp_region_quiet_below (by kernel_rfl) (by kernel_rfl) ?_
  repeat (quiet_step (first | exact CI.out _ _ | exact CH.out _ _))
  refine wpQuiet_nil ?_
  intro _ hw'
  obtain ⟨⟨dq, osq⟩, hw''⟩ := hw'
  subst hw''
  go_wp2
  go_ret
  exact ⟨by rw [HW.out]; rfl, below_trans w0 (below_regrown _ dq osq)⟩

theorem text_any (n : Int) (h0 : -9223372036854775808 ≤ n) (h1 : n ≤ 9223372036854775807) (l : List Int) (hl : l.length ≤ 2147483647) (h : ∀ x ∈ l, 0 ≤ x ∧ x ≤ 255) (A : Option Addr) (c : Nat) (w : World) (hv : Vars w) (hr : (Kd.int .u8).C w A l.length l) (hc : l.length ≤ c) :
    Calls Tryd.prog 7 #[.int .i64 n, .slice A l.length c] w fun e w' => e = .returned (.string ⟨(wrote false n l).toArray⟩) ∧ Below w.heap.size w w' := by
  have H := Lib.hid (string_any n h0 h1 l hl h A c w hv hr hc)
  clear hr h hv
  go_enter Tryd.func7, Tryd.ntmps7
  go_wp2_with (go_at_call 13; ((with_reducible refine H.out.mono ?_); rintro e w1 ⟨rfl, hb⟩))
  go_ret
  exact ⟨rfl, hb⟩

theorem awake_any (w : World) (hv : Vars w) : Calls Tryd.prog 5 #[] w fun e w' => e = .returned (.bool true) ∧ Below w.heap.size w w' := by
  have w0 : Below w.heap.size w (w.alloc (.cells #[.int .u8 171] 5)) := below_alloc (Below.refl _ _) _
  have hr : (Kd.int .u8).C (w.alloc (.cells #[.int .u8 171] 5)) (some ⟨w.heap.size, 0, none⟩) 1 [171] := (Kd.R_reads' (Kd.R_of_own (ok := fun _ => True) (own_lit w w.heap.size 5 .u8 [171] (Nat.le_refl _) (by simp)) (fun _ _ => trivial))).2.2
  have H := Lib.hid (text_any 1 (by omega) (by omega) [171] (by simp) (by simp) (some ⟨w.heap.size, 0, none⟩) 1 _ (hv.below w0) hr (Nat.le_refl _))
  have e1 : wrote false 1 [171] = [49, 58, 97, 98] := by decide +kernel
  rw [e1] at H
  clear hr e1 hv
  go_enter Tryd.func5, Tryd.ntmps5
  go_wp2_with (go_at_call 7; ((refine H.out.mono ?_); rintro e w1 ⟨rfl, hb⟩))
  go_ret
  exact ⟨rfl, below_trans w0 hb⟩

theorem unhex_len : ∀ (l : List UInt8) (bs : List Int), unhex l = some bs → bs.length ≤ l.length
  | [], bs, h => by simp [unhex] at h; simp [← h]
  | [_], bs, h => by simp [unhex] at h
  | a :: b :: r, bs, h => by
    rw [unhex] at h
    split at h
    · obtain ⟨q, hq, rfl⟩ := Option.map_eq_some_iff.1 h
      have := unhex_len r q hq
      simp; omega
    · cases h
theorem digest_len {s : ByteArray} {n : Int} {bs : List Int} {p q : Prop} (h : (digest s.data.toList = some (n, bs) ∧ p) ∨ (digest s.data.toList = none ∧ n = 0 ∧ bs = [] ∧ q)) (hs : s.size ≤ 2147483647) : bs.length ≤ 2147483647 := by
  rcases h with ⟨h, _⟩ | ⟨_, _, rfl, _⟩
  · unfold digest at h
    split at h
    · rename_i a b hab
      unfold digest2 at h
      split at h
      · rename_i q v hq hv
        simp at h
        obtain ⟨_, rfl⟩ := h
        have h1 := unhex_len _ _ hq
        have h2 := part_le s.data.toList b (by rw [hab]; simp)
        rw [show s.data.toList.length = s.size from Array.length_toList] at h2
        omega
      · cases h
    · cases h
  · simp

/-- What ParseDigest comes to. -/
def Told (q : Option (Int × List Int)) (w : World) (e : Ending) (w' : World) : Prop :=
  ∃ (v : Value), e = .returned (.tuple #[.int .i64 ((q.map (·.1)).getD 0), v, .bool q.isSome]) ∧ (Kd.int .u8).R 5 w' w.heap.size (fun _ => True) v ((q.map (·.2)).getD []) ∧ Below w.heap.size w w'

theorem told_any (s : ByteArray) (hs : s.size ≤ 2147483647) (w : World) (hv : Vars w) : Calls Tryd.prog 6 #[.string s] w (Told (digest s.data.toList) w) := by
  go_enter Tryd.func6, Tryd.ntmps6
  go_wp2_with (go_at_call 12; go_loud (refine (parse_any s hs _ hv).mono ?_; rintro e w1 ⟨n, v, err, bs, rfl, hr, hb, hor⟩; refine Hid.out ?_))
  obtain ⟨vA, vc, rfl⟩ := Kd.R_slice hr
  have hrC := Kd.R_reads' hr
  have HB := Aside0.mk hb
  have HRC := Aside0.mk hrC
  have HOR := Lib.hid hor
  have HBL := Lib.hid (digest_len hor hs)
  clear hr hb hor hrC
  have hbl : bs.length ≤ 2147483647 := HBL.out
  rcases HOR.out with ⟨hd, rfl⟩ | ⟨hd, rfl, rfl, hsl, tt, ad, rfl⟩
  · have HD := Lib.hid hd
    clear hd HOR
    have hrow := Kd.C_drew (Kd.C_alloc HRC.out.2.2 (.cells #[.int .i64 n, .slice vA bs.length vc] 33))
    have HROW := Aside0.mk hrow
    have HBB := Aside0.mk (below_drew (below_alloc HB.out (.cells #[.int .i64 n, .slice vA bs.length vc] 33)))
    clear hrow
    refine Lib.hid ?_
    go_wp2_with fail
    go_region_law (refine Kd.R_append_rows_step (Kd.int .u8) (w0 := w) w.heap.size rfl (.const (.slice none 0 0)) (.tmp 15) 23 5 (.int .u8 0) 1 rfl Tryd.underlying23 info5 rfl (by decide) (by omega) (.slice none 0 0) [] bs vA bs.length vc (fun _ => True) (fun _ => False) rfl (by simp [Act.eval]) (Kd.R_nil _ _ _ _ _) HROW.out (fun _ _ h => h) (fun _ hk => hk.elim) (fun _ _ => trivial) HBB.out HBB.out.size (by simp; omega) ?_; intro v6 w6 hr6 hb6 hg6 _; have hk6 := blk_two (blk_grown (w := (w1.alloc (.cells #[.int .i64 n, .slice vA bs.length vc] 33)).drew) (alloc_at w1 _) hg6 (by simp [Value.ownBlock])); obtain ⟨hk6a, hk6b, hk6c, hk6d⟩ := hk6)
    all_goals
      go_wp2
      go_ret3
      rw [HD.out]
      exact ⟨v6, rfl, hr6, hb6⟩
  · have HD := Lib.hid hd
    clear hd HOR
    simp only [List.length_nil, Value.slice.injEq] at hsl
    obtain ⟨rfl, -, rfl⟩ := hsl
    have hrow := Kd.C_drew (Kd.C_alloc HRC.out.2.2 (.cells #[.int .i64 0, .slice none ([] : List Int).length 0] 33))
    have HROW := Aside0.mk hrow
    have HBB := Aside0.mk (below_drew (below_alloc HB.out (.cells #[.int .i64 0, .slice none ([] : List Int).length 0] 33)))
    clear hrow
    refine Lib.hid ?_
    go_wp2_with fail
    go_region_law (refine Kd.R_append_rows_step (Kd.int .u8) (w0 := w) w.heap.size rfl (.const (.slice none 0 0)) (.tmp 15) 23 5 (.int .u8 0) 1 rfl Tryd.underlying23 info5 rfl (by decide) (by omega) (.slice none 0 0) [] [] none 0 0 (fun _ => True) (fun _ => False) rfl (by simp [Act.eval]) (Kd.R_nil _ _ _ _ _) HROW.out (fun _ _ h => h) (fun _ hk => hk.elim) (fun _ _ => trivial) HBB.out HBB.out.size (by simp) ?_; intro v6 w6 hr6 hb6 hg6 _; have hk6 := blk_two (blk_grown (w := (w1.alloc (.cells #[.int .i64 0, .slice none ([] : List Int).length 0] 33)).drew) (alloc_at w1 _) hg6 (by simp [Value.ownBlock])); obtain ⟨hk6a, hk6b, hk6c, hk6d⟩ := hk6)
    all_goals
      go_wp2
      go_ret3
      rw [HD.out]
      exact ⟨v6, rfl, hr6, hb6⟩

end Go.Proofs.YtehcnjjkklogbaaDoor.Dig
