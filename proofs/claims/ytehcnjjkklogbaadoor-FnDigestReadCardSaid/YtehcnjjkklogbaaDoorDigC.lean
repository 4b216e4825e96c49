/- ParseVersionedDigest. Conditions of the contracts: the library's variables hold what the row lists. -/
import Derived.Test.YtehcnjjkklogbaaDoorDigB
import Derived.Test.YtehcnjjkklogbaaDoorShelf
import Derived.Test.YtehcnjjkklogbaaDoorVars
namespace Go.Proofs.YtehcnjjkklogbaaDoor.Dig
open Go.RowKit Go.Proofs.YtehcnjjkklogbaaDoor.PFnDigest Go.Proofs.YtehcnjjkklogbaaDoorW.PrintWords

/-- What strconv.Atoi comes to: a number and nil, or an error. -/
def Read (s : ByteArray) (w : World) (e : Ending) (w' : World) : Prop :=
  ∃ (n : Int) (err : Value), e = .returned (.tuple #[.int .i64 n, err]) ∧ Below w.heap.size w w' ∧
    ((Lib.atoiAll s.data.toList = .ok n ∧ err = .nilIface) ∨ ((∀ v, Lib.atoiAll s.data.toList ≠ .ok v) ∧ ∃ t a, err = .iface t (.pointer (some a))))

theorem atoi_any (s : ByteArray) (hs : s.size ≤ 2147483647) (w : World) (hv : Vars w) : Calls Tryd.prog 18 #[.string s] w (Read s w) := by
  obtain ⟨⟨t1, p1, h1⟩, ⟨t2, p2, h2⟩, h3⟩ := hv
  rcases h : Lib.atoiAll s.data.toList with v | _ | _
  · refine (Tryd.strconv_Atoi_ok s (by omega) v h w).mono ?_
    rintro e w' ⟨rfl, hw⟩
    refine ⟨v, .nilIface, rfl, ?_, .inl ⟨h, rfl⟩⟩
    rcases hw with rfl | ⟨t, rfl⟩
    · exact Below.refl _ _
    · exact Lib.bytesWorld_below _ _ _
  · refine (Tryd.strconv_Atoi_syntax_var s (by omega) h t1 p1 w h1).mono ?_
    rintro e w' ⟨N, rfl, _, _, hb⟩
    exact ⟨_, _, rfl, hb, .inr ⟨(fun v e => by rw [h] at e; cases e), _, _, rfl⟩⟩
  · refine (Tryd.strconv_Atoi_range_var s (by omega) h t2 p2 w h2).mono ?_
    rintro e w' ⟨N, rfl, _, _, hb⟩
    exact ⟨_, _, rfl, hb, .inr ⟨(fun v e => by rw [h] at e; cases e), _, _, rfl⟩⟩

/-- What is read as a digest: the number and the bytes. -/
def digest2 : Option (List Int) → Lib.NumEnd Int → Option (Int × List Int)
  | some bs, .ok v => some (v, bs)
  | _, _ => none
def digest (l : List UInt8) : Option (Int × List Int) :=
  match parts l with
  | [a, b] => digest2 (unhex b) (Lib.atoiAll a)
  | _ => none

def Parsed (s : ByteArray) (w : World) (e : Ending) (w' : World) : Prop :=
  ∃ (n : Int) (v err : Value) (bs : List Int), e = .returned (.tuple #[.agg #[.int .i64 n, v], err]) ∧ (Kd.int .u8).R 5 w' w.heap.size (fun _ => True) v bs ∧ Below w.heap.size w w' ∧
    ((digest s.data.toList = some (n, bs) ∧ err = .nilIface) ∨ (digest s.data.toList = none ∧ n = 0 ∧ bs = [] ∧ v = .slice none 0 0 ∧ ∃ t a, err = .iface t (.pointer (some a))))

theorem bcell {W w1 : World} (hb : Below W.heap.size W w1) : (∀ b o, b < W.heap.size → w1.cell? ⟨b, o, none⟩ = W.cell? ⟨b, o, none⟩) ∧ (∀ b o, b < W.heap.size → w1.frozen? ⟨b, o, none⟩ = W.frozen? ⟨b, o, none⟩) :=
  ⟨fun b o h => hb.cell (p := ⟨b, o, none⟩) h, fun b o h => hb.frozen (p := ⟨b, o, none⟩) h⟩
theorem alloc_at (w : World) (o : Obj) : (w.alloc o).heap[w.heap.size]? = some o := by
  show (w.heap.push o)[w.heap.size]? = _
  simp
theorem alloc_size (w : World) (o : Obj) : (w.alloc o).heap.size = w.heap.size + 1 := by
  show (w.heap.push o).size = _
  simp
theorem own_two {w w1 : World} {x y : Obj} (hb : Below ((w.alloc x).alloc y).heap.size ((w.alloc x).alloc y) w1) : w1.heap[w.heap.size]? = some x ∧ w1.heap[w.heap.size + 1]? = some y := by
  have e1 := alloc_size w x
  have e2 := alloc_size (w.alloc x) y
  refine ⟨?_, ?_⟩
  · rw [hb.block _ (by omega), Below.heap_alloc _ _ _ (by omega)]; exact alloc_at w x
  · rw [hb.block _ (by omega), ← e1]; exact alloc_at _ y
theorem blk_kept {w w1 : World} {g : Nat} {o : Obj} (h : w.heap[g]? = some o) (hb : Below w.heap.size w w1) : w1.heap[g]? = some o := by
  rw [hb.block g (blk_lt h)]; exact h
/-- The cells of a block of two. -/
theorem blk_two {w : World} {g t : Nat} {x y : Value} (h : w.heap[g]? = some (.cells #[x, y] t (0, 0))) :
    w.cell? ⟨g, 0, none⟩ = some x ∧ w.cell? ⟨g, 1, none⟩ = some y ∧ w.frozen? ⟨g, 0, none⟩ = false ∧ w.frozen? ⟨g, 1, none⟩ = false :=
  ⟨blk_cell h 0, blk_cell h 1, blk_frozen h 0, blk_frozen h 1⟩
theorem part_le (l p : List UInt8) (h : p ∈ parts l) : p.length ≤ l.length := by
  induction l generalizing p with
  | nil => simp [parts] at h; simp [h]
  | cons c r ih =>
    rw [parts] at h
    split at h
    · rcases List.mem_cons.1 h with rfl | h
      · simp
      · have := ih p h; simp; omega
    · split at h
      · simp at h; simp [h]
      · rename_i q qs hq
        rcases List.mem_cons.1 h with rfl | h
        · have := ih q (by rw [hq]; simp); simp; omega
        · have := ih p (by rw [hq]; simp [h]); simp; omega
theorem two_of {l : List (List UInt8)} (h : l.length = 2) : ∃ a b, l = [a, b] := by
  match l, h with
  | [a, b], _ => exact ⟨a, b, rfl⟩
theorem text_size (p : List UInt8) : (⟨p.toArray⟩ : ByteArray).size = p.length := by show p.toArray.size = _; simp
theorem text_data (p : List UInt8) : (⟨p.toArray⟩ : ByteArray).data.toList = p := by simp
theorem texts_length (l : List (List UInt8)) : (texts l).length = l.length := by simp [texts]

theorem digest_not {l : List UInt8} (h : ¬ (parts l).length = 2) : digest l = none := by
  unfold digest
  split
  · rename_i a b hab; rw [hab] at h; exact absurd rfl h
  · rfl
theorem digest_two {l a b : List UInt8} (h : parts l = [a, b]) : digest l = digest2 (unhex b) (Lib.atoiAll a) := by
  unfold digest
  rw [h]
theorem digest_bad {l a b : List UInt8} (h : parts l = [a, b]) (h2 : unhex b = none ∨ ∀ v, Lib.atoiAll a ≠ .ok v) : digest l = none := by
  rw [digest_two h]
  cases hu : unhex b with
  | none => cases Lib.atoiAll a <;> rfl
  | some bs =>
    rcases ha : Lib.atoiAll a with v | _ | _
    · rcases h2 with h2 | h2
      · rw [hu] at h2; cases h2
      · exact absurd ha (h2 v)
    · rfl
    · rfl
theorem digest_good {l a b : List UInt8} {n : Int} {bs : List Int} (h : parts l = [a, b]) (h2 : unhex b = some bs) (h3 : Lib.atoiAll a = .ok n) : digest l = some (n, bs) := by
  rw [digest_two h, h2, h3]
  rfl

theorem parse_any (s : ByteArray) (hs : s.size ≤ 2147483647) (w : World) (hv : Vars w) : Calls Tryd.prog 12 #[.string s] w (Parsed s w) := by
  have HV := Lib.hid hv
  clear hv
  go_enter Tryd.func12, Tryd.ntmps12
  go_wp2_with (go_at_call 15; go_loud (refine (split_any s hs _).mono ?_; rintro e w1 ⟨v, rfl, hr, hb⟩; refine Hid.out ?_))
  obtain ⟨g, cap, rfl, hg1, hg2, cells, hcells⟩ := Kd.R_form hr (by rw [texts_length]; exact List.length_pos_iff.2 (parts_ne _))
  obtain ⟨bA, bB⟩ := own_two hb
  obtain ⟨hA0, hA1, fA0, fA1⟩ := blk_two bA
  obtain ⟨hB0, hB1, fB0, fB1⟩ := blk_two bB
  have hz : w.heap.size + 1 < w1.heap.size := by have := hb.size; simp at this; omega
  have hz0 : w.heap.size < w1.heap.size := by omega
  have HBW := Aside0.mk (below_trans (below_alloc (below_alloc (Below.refl w.heap.size w) _) _) hb)
  have HR := Aside0.mk hr
  have HB := Aside0.mk hb
  have HC := Aside0.mk hcells
  have BA := Aside0.mk bA
  have BB := Aside0.mk bB
  have HG1 := Aside0.mk hg1
  have HG2 := Aside0.mk hg2
  clear hr hb hcells bA bB hg1 hg2
  by_cases h2 : (parts s.data.toList).length = 2
  · obtain ⟨pa, pb, hab⟩ := two_of h2
    have hla := part_le s.data.toList pa (by rw [hab]; simp)
    have hlb := part_le s.data.toList pb (by rw [hab]; simp)
    have hsz : s.data.toList.length = s.size := Array.length_toList
    have sa : (⟨pa.toArray⟩ : ByteArray).size ≤ 2147483647 := by rw [text_size]; omega
    have sb : (⟨pb.toArray⟩ : ByteArray).size ≤ 2147483647 := by rw [text_size]; omega
    have HRR := HR.out
    rw [hab] at HRR
    have hC := (Kd.R_reads' HRR).2.2
    obtain ⟨ad, e0, c0⟩ := Kd.at_string hC 0 (by omega) (by simp [texts])
    obtain ⟨ad1, e1, c1⟩ := Kd.at_string hC 1 (by omega) (by simp [texts])
    cases e0
    cases e1
    have c0' : w1.cell? ⟨g, 0, none⟩ = some (.string ⟨pa.toArray⟩) := c0
    have c1' : w1.cell? ⟨g, 1, none⟩ = some (.string ⟨pb.toArray⟩) := c1
    have hlen : (texts (parts s.data.toList)).length = 2 := by rw [hab]; rfl
    generalize hpa : (⟨pa.toArray⟩ : ByteArray) = ta at *
    generalize hpb : (⟨pb.toArray⟩ : ByteArray) = tb at *
    have HPA := Lib.hid hpa
    have HPB := Lib.hid hpb
    have HAB := Lib.hid hab
    have HC0 := Aside0.mk c0'
    rw [hlen]
    clear hpa hpb h2 hab hla hlb hsz HRR hC c0 c1 hlen
    refine Lib.hid ?_
    go_wp2_with (first
      | (go_at_call 17; go_loud (refine (bytes_any tb sb _).mono ?_; rintro e w2 ⟨v, err, l, rfl, hr2, hb2, hor⟩; refine Hid.out ?_)))
    obtain ⟨vA, vc, rfl⟩ := Kd.R_slice hr2
    obtain ⟨hA0', hA1', fA0', fA1'⟩ := blk_two (blk_kept BA.out hb2)
    obtain ⟨hB0', hB1', fB0', fB1'⟩ := blk_two (blk_kept BB.out hb2)
    have hc0 := pw_cell_below hb2 HC0.out
    have hz2 : w.heap.size + 1 < w2.heap.size := by have := hb2.size; omega
    have hz3 : w.heap.size < w2.heap.size := by omega
    have HB2 := Aside0.mk hb2
    have HR2 := Aside0.mk (Kd.R_mono (Kd.R_bound hr2) (ok' := fun k => w1.heap.size ≤ k) (fun k hk => hk.2.1))
    have HZ := Lib.hid hz
    have HOR := Lib.hid hor
    clear hb2 hr2 hor hA0 hA1 fA0 fA1 hB0 hB1 fB0 fB1 c0' c1'
    have HBW2 := Aside0.mk (below_trans HBW.out HB2.out)
    rcases HOR.out with ⟨hok, rfl⟩ | ⟨hno, ad2, rfl⟩
    · have HOK := Lib.hid hok
      clear hok HOR
      have hvv := HV.out.below (HBW2.out.setCell (p := ⟨w.heap.size + 1, 1, none⟩) (by simp) (.slice vA l.length vc))
      have HVV := Lib.hid hvv
      clear hvv
      refine Lib.hid ?_
      go_wp2_with (first
        | (go_at_call 18; go_loud (refine (atoi_any ta sa _ HVV.out).mono ?_; rintro e w3 ⟨n, err, rfl, hb3, hor3⟩; refine Hid.out ?_)))
      have bA3 := blk_kept (blk_far (blk_kept BA.out HB2.out) (p := ⟨w.heap.size + 1, 1, none⟩) (by simp) (.slice vA l.length vc)) hb3
      have bB3 := blk_kept (blk_set (blk_kept BB.out HB2.out) 1 (.slice vA l.length vc)) hb3
      obtain ⟨hA0, hA1, fA0, fA1⟩ := blk_two bA3
      obtain ⟨hB0, hB1, fB0, fB1⟩ := blk_two bB3
      have HBW3 := Aside0.mk (below_trans (HBW2.out.setCell (p := ⟨w.heap.size + 1, 1, none⟩) (by simp) (.slice vA l.length vc)) hb3)
      have HB3 := Aside0.mk hb3
      have HOR3 := Lib.hid hor3
      clear hb3 hor3 hA0' hA1' fA0' fA1' hB0' hB1' fB0' fB1' hc0 hz hz0 hz2 hz3 bA3 bB3
      rcases HOR3.out with ⟨hok3, rfl⟩ | ⟨hno3, tt, ad3, rfl⟩
      · have HOK3 := Lib.hid hok3
        clear hok3 HOR3
        refine Lib.hid ?_
        go_wp2_with fail
        refine bodyPost_ret (v := .tuple #[.agg #[.int .i64 n, .slice vA l.length vc], .nilIface]) (by simp [results, Tryd.results12, go_sem, *]) rfl ⟨n, .slice vA l.length vc, _, l, rfl, ?_, ?_, .inl ⟨digest_good HAB.out ?_ ?_, rfl⟩⟩
        · have hz := HZ.out
          refine Kd.R_mono (Kd.R_lower (Kd.R_far (p := ⟨w.heap.size, 1, none⟩) (Kd.R_far (p := ⟨w.heap.size, 0, none⟩) (Kd.R_far (p := ⟨w.heap.size + 1, 0, none⟩) (Kd.R_below (Kd.R_far (p := ⟨w.heap.size + 1, 1, none⟩) HR2.out ?_ _) HB3.out) ?_ _) ?_ _) ?_ _) HBW.out.size) (fun _ _ => trivial)
          all_goals (intro k hk; have hk2 : w1.heap.size ≤ k := hk; dsimp only; omega)
        · exact (((HBW3.out.setCell (p := ⟨w.heap.size + 1, 0, none⟩) (by simp) _).setCell (p := ⟨w.heap.size, 0, none⟩) (Nat.le_refl _) _)).setCell (p := ⟨w.heap.size, 1, none⟩) (Nat.le_refl _) _
        · rw [← HPB.out] at HOK; exact HOK.out
        · rw [← HPA.out] at HOK3; exact HOK3.out
      · have HNO3 := Lib.hid hno3
        clear hno3 HOR3
        refine Lib.hid ?_
        go_wp2_with fail
        refine bodyPost_ret (v := .tuple #[.agg #[.int .i64 0, .slice none 0 0], .iface tt (.pointer (some ad3))]) (by simp [results, Tryd.results12, go_sem, *]) rfl ⟨0, .slice none 0 0, _, [], rfl, Kd.R_nil _ _ _ _ _, ?_, .inr ⟨digest_bad HAB.out (.inr ?_), rfl, rfl, rfl, _, _, rfl⟩⟩
        · exact (((HBW3.out.setCell (p := ⟨w.heap.size + 1, 0, none⟩) (by simp) _).setCell (p := ⟨w.heap.size, 0, none⟩) (Nat.le_refl _) _)).setCell (p := ⟨w.heap.size, 1, none⟩) (Nat.le_refl _) _
        · rw [← HPA.out] at HNO3; exact HNO3.out
    · have HNO := Lib.hid hno
      clear hno HOR
      refine Lib.hid ?_
      go_wp2_with fail
      refine bodyPost_ret (v := .tuple #[.agg #[.int .i64 0, .slice none 0 0], .iface 49 (.pointer (some ad2))]) (by simp [results, Tryd.results12, go_sem, *]) rfl ⟨0, .slice none 0 0, _, [], rfl, Kd.R_nil _ _ _ _ _, ?_, .inr ⟨digest_bad HAB.out (.inl ?_), rfl, rfl, rfl, _, _, rfl⟩⟩
      · exact (((HBW2.out.setCell (p := ⟨w.heap.size + 1, 1, none⟩) (by simp) _).setCell (p := ⟨w.heap.size, 0, none⟩) (Nat.le_refl _) _)).setCell (p := ⟨w.heap.size, 1, none⟩) (Nat.le_refl _) _
      · rw [← HPB.out] at HNO; exact HNO.out
  · have h2b : (((texts (parts s.data.toList)).length : Int) != 2) = true := by rw [texts_length, bne_iff_ne]; omega
    generalize (texts (parts s.data.toList)).length = n at *
    refine Lib.hid ?_
    go_wp2_with (go_at_call 16; ((with_reducible refine (new_any _ _).mono ?_); rintro e w2 ⟨rfl, rfl⟩))
    refine bodyPost_ret (v := .tuple #[.agg #[.int .i64 0, .slice none 0 0], .iface 49 (.pointer (some ⟨w1.heap.size, 0, none⟩))]) (by simp [results, Tryd.results12, go_sem, hA0, hA1, hz0]) rfl ⟨0, .slice none 0 0, _, [], rfl, Kd.R_nil _ _ _ _ _, ?_, .inr ⟨?_, rfl, rfl, rfl, _, _, rfl⟩⟩
    · exact below_alloc (((HBW.out.setCell (p := ⟨w.heap.size, 0, none⟩) (Nat.le_refl _) _)).setCell (p := ⟨w.heap.size, 1, none⟩) (Nat.le_refl _) _) _
    · exact digest_not h2

end Go.Proofs.YtehcnjjkklogbaaDoor.Dig
