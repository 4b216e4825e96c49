/- PruneFor: what it computes: the last own options of the project decide. Conditions: the texts are no longer than a text can be. -/
import Derived.Test.YtehcnjjkklogbaaPfA
namespace Go.Proofs.Ytehcnjjkklogbaa.PfOwn
open Go.RowKit Go.Maps Go.Proofs.Ytehcnjjkklogbaa.FnPruneOwn Go.Proofs.Ytehcnjjkklogbaa.PFnPruneFor Go.Proofs.YtehcnjjkklogbaaW.PrintWords

/-- The last one with this root. -/
def lastOf (l : List S30) (root : ByteArray) : Option S30 := l.foldl (fun acc s => if s.f0 = root then some s else acc) none
def wantOf (all : Int) : Option S30 → Int
  | none => all
  | some s => own4 all s.f1 s.f2 s.f3 s.f4
theorem lastOf_snoc (l : List S30) (s : S30) (root : ByteArray) : lastOf (l ++ [s]) root = if s.f0 = root then some s else lastOf l root := by
  simp [lastOf, List.foldl_append]
def puts (l : List S30) : DataW Unit := l.foldl (fun m s => m.put (.string s.f0.data.toList) (setDat s.f1 s.f2 s.f3 s.f4)) (.map [])
theorem puts_snoc (l : List S30) (s : S30) : puts (l ++ [s]) = (puts l).put (.string s.f0.data.toList) (setDat s.f1 s.f2 s.f3 s.f4) := by
  simp [puts, List.foldl_append]
def Rel (root : ByteArray) (m : DataW Unit) : Option S30 → Prop
  | none => IsMap m ∧ Maps.has m (.string root.data.toList) = false
  | some s => IsMap m ∧ Maps.has m (.string root.data.toList) = true ∧ ∀ z, m.atKey (.string root.data.toList) z = setDat s.f1 s.f2 s.f3 s.f4
theorem rel_step {root : ByteArray} {m : DataW Unit} {acc : Option S30} (h : Rel root m acc) (s : S30) :
    Rel root (m.put (.string s.f0.data.toList) (setDat s.f1 s.f2 s.f3 s.f4)) (if s.f0 = root then some s else acc) := by
  have hm : IsMap m := by cases acc <;> exact h.1
  by_cases hr : s.f0 = root
  · rw [if_pos hr]
    subst hr
    exact ⟨hm.put _ _, has_put_same hm (by unfold WideAt.IsKeyLit; trivial) _, fun z => atKey_put_same hm (by unfold WideAt.IsKeyLit; trivial) _ z⟩
  · rw [if_neg hr]
    have hne : (Lit.string root.data.toList) ≠ .string s.f0.data.toList := fun e => by
      injection e with e
      exact hr (ByteArray.ext (Array.ext' e.symm))
    cases acc with
    | none => exact ⟨hm.put _ _, by rw [has_put_other hne]; exact h.2⟩
    | some t => exact ⟨hm.put _ _, by rw [has_put_other hne]; exact h.2.1, fun z => by rw [atKey_put_other hne]; exact h.2.2 z⟩
theorem rel_fold (root : ByteArray) : ∀ (l : List S30) (m : DataW Unit) (acc : Option S30), Rel root m acc →
    Rel root (l.foldl (fun m s => m.put (.string s.f0.data.toList) (setDat s.f1 s.f2 s.f3 s.f4)) m) (l.foldl (fun acc s => if s.f0 = root then some s else acc) acc)
  | [], _, _, h => h
  | s :: l, _, _, h => rel_fold root l _ _ (rel_step h s)
theorem rel_puts (l : List S30) (root : ByteArray) : Rel root (puts l) (lastOf l root) := rel_fold root l _ _ ⟨isMap_empty, rfl⟩

theorem take_next {l : List S30} {k : Nat} (h : k < l.length) : l.take (k + 1) = l.take k ++ [rd_T30 l (k : Int)] := by
  rw [List.take_add_one, List.getElem?_eq_getElem h]
  unfold rd_T30
  simp [List.getD_eq_getElem?_getD, List.getElem?_eq_getElem h]
theorem rd_mem {l : List S30} {k : Nat} (h : k < l.length) : rd_T30 l (k : Int) ∈ l := by
  unfold rd_T30
  simp [List.getD_eq_getElem?_getD, List.getElem?_eq_getElem h]
theorem alloc_at (w : World) (o : Obj) : (w.alloc o).heap[w.heap.size]? = some o := by
  show (w.heap.push o)[w.heap.size]? = _
  simp
theorem alloc_size (w : World) (o : Obj) : (w.alloc o).heap.size = w.heap.size + 1 := by
  show (w.heap.push o).size = _
  simp
theorem own_two {w w1 : World} {x y : Obj} (hb : Below ((w.alloc x).alloc y).heap.size ((w.alloc x).alloc y) w1) : w1.heap[w.heap.size]? = some x ∧ w1.heap[w.heap.size + 1]? = some y := by
  have e1 := alloc_size w x
  have e2 := alloc_size (w.alloc x) y
  refine ⟨?_, ?_⟩
  · rw [hb.block _ (by omega), Below.heap_alloc _ _ _ (by omega)]; exact alloc_at w x
  · rw [hb.block _ (by omega), ← e1]; exact alloc_at _ y
theorem blk_kept {w w1 : World} {g : Nat} {o : Obj} (h : w.heap[g]? = some o) (hb : Below w.heap.size w w1) : w1.heap[g]? = some o := by
  rw [hb.block g (blk_lt h)]; exact h
/-- The cells of a block of two. -/
theorem blk_two {w : World} {g t : Nat} {x y : Value} (h : w.heap[g]? = some (.cells #[x, y] t (0, 0))) :
    w.cell? ⟨g, 0, none⟩ = some x ∧ w.cell? ⟨g, 1, none⟩ = some y ∧ w.frozen? ⟨g, 0, none⟩ = false ∧ w.frozen? ⟨g, 1, none⟩ = false :=
  ⟨blk_cell h 0, blk_cell h 1, blk_frozen h 0, blk_frozen h 1⟩
theorem puts_any (all : Int) (root : ByteArray) (hroot : root.size ≤ maxLen) (l : List S30) (hl : l.length ≤ 2147483647) (hg : ∀ s ∈ l, s.f0.size ≤ maxLen) (A : Option Addr) (c : Nat) (w : World) (hC : Kd.C k30 w A l.length l) :
    Calls Try.prog 15 #[.int .u8 all, .slice A l.length c, .string root] w fun e w' => e = .returned (.int .u8 (wantOf all (lastOf l root))) ∧ Below w.heap.size w w' := by
  have hmm := @run_makeMap Try.prog
  have HC := Lib.hid hC
  have HG := Lib.hid hg
  clear hC hg
  go_enter Try.func15, Try.ntmps15
  go_wp2
  go_loopw [15] (fun v15 wr => ∃ k : Nat, k ≤ l.length ∧ v15 = .int .i64 (k : Int) ∧ Aside0 (Below w.heap.size w wr) ∧ Aside0 (wr.ownsMap Try.prog 49 setElem w.heap.size k (puts (l.take k))) ∧ Aside0 (wr.heap[w.heap.size + 1]? = some (.cells #[.int .u8 all, .map (some w.heap.size)] 46 (0, 0)))) (fun v15 _ => l.length - (intOf v15).toNat)
  case atStart => exact ⟨0, by omega, rfl, ⟨below_alloc (below_alloc (Below.refl _ _) _) _⟩, ⟨(World.ownsMap_made _ _ _ _).alloc _⟩, ⟨(own_two (Below.refl _ _)).2⟩⟩
  case round =>
    obtain ⟨k, hk, rfl, HB, HM, HX⟩ := hrel
    by_cases hlt : k < l.length
    · obtain ⟨ad, hA, x0, x1, x2, x3, x4⟩ := at_T30 HC.out (k : Int) (by omega) (by omega)
      subst hA
      rw [Int.toNat_natCast] at x0 x1 x2 x3 x4
      replace x0 := (HB.out.cell (World.block_lt_of_cell? w _ x0)).trans x0
      replace x1 := (HB.out.cell (World.block_lt_of_cell? w _ x1)).trans x1
      replace x2 := (HB.out.cell (World.block_lt_of_cell? w _ x2)).trans x2
      replace x3 := (HB.out.cell (World.block_lt_of_cell? w _ x3)).trans x3
      replace x4 := (HB.out.cell (World.block_lt_of_cell? w _ x4)).trans x4
      have hsz : (rd_T30 l (k : Int)).f0.size ≤ maxLen := HG.out _ (rd_mem hlt)
      have hnx := take_next hlt
      have hpn : puts (l.take (k + 1)) = (puts (l.take k)).put (.string (rd_T30 l (k : Int)).f0.data.toList) (setDat (rd_T30 l (k : Int)).f1 (rd_T30 l (k : Int)).f2 (rd_T30 l (k : Int)).f3 (rd_T30 l (k : Int)).f4) := by rw [hnx, puts_snoc]
      have HP := Lib.hid hpn
      have HK := Lib.hid (WideMaps.keyOf_string_mk (k := 49) Try.underlying49 hsz)
      clear hnx hpn hsz
      generalize (rd_T30 l (k : Int)).f0 = f0 at *
      generalize (rd_T30 l (k : Int)).f1 = f1 at *
      generalize (rd_T30 l (k : Int)).f2 = f2 at *
      generalize (rd_T30 l (k : Int)).f3 = f3 at *
      generalize (rd_T30 l (k : Int)).f4 = f4 at *
      have HX1 := Aside0.mk (blk_kept HX.out (below_alloc (Below.refl _ _) (.cells #[.string f0, .int .u8 f1, .int .u8 f2, .int .u8 f3, .int .u8 f4] 30)))
      have HB1 := Aside0.mk (below_alloc HB.out (.cells #[.string f0, .int .u8 f1, .int .u8 f2, .int .u8 f3, .int .u8 f4] 30))
      obtain ⟨hx0, hx1, fx0, fx1⟩ := blk_two HX1.out
      go_wp2_with (first | (at_mapUpdate; refine wpList_mapUpdate_own _ rfl _ _ _ 44 rfl 49 48 law Try.underlying44 setElem w.heap.size k _ rfl (HM.out.alloc _) (by unfold maxLen; omega) _ _ _ rfl rfl HK.out (setDat f1 f2 f3 f4) [] (setElem_mk f1 f2 f3 f4) ?_; intro w1 hown1 hgrow1))
      go_roundw
      case rel => exact ⟨k + 1, by omega, by simp, ⟨HB1.out.grown hgrow1 HB1.out.size (fun j hj => by cases hj; exact Nat.le_refl _)⟩, ⟨by rw [HP.out]; exact hown1⟩, ⟨(hgrow1.block _ (blk_lt HX1.out) (by simp)).trans HX1.out⟩⟩
      case measure => simp [intOf]; omega
    · have hkl : k = l.length := by omega
      subst hkl
      have hM := HM.out
      rw [List.take_length] at hM
      have HM2 := Lib.hid hM
      have HR := Lib.hid (rel_puts l root)
      have HK := Lib.hid (WideMaps.keyOf_string_mk (k := 49) Try.underlying49 hroot)
      obtain ⟨hx0, hx1, fx0, fx1⟩ := blk_two HX.out
      clear hM HM HX
      cases hq : lastOf l root with
      | none =>
        have hr := HR.out
        rw [hq] at hr
        have CN := Lib.hid (for_not all root w.heap.size l.length (puts l) _ HK.out hr.2 wr HM2.out)
        have HQ := Lib.hid hq
        clear hr hq
        go_wp2_with (go_at_call 20; ((with_reducible refine CN.out.mono ?_); rintro e w9 ⟨rfl, hb⟩; have HB9 := Aside0.mk (below_trans HB.out hb); clear hb))
        go_ret
        exact ⟨by rw [HQ.out]; rfl, HB9.out⟩
      | some q =>
        have hr := HR.out
        rw [hq] at hr
        have CN := Lib.hid (for_has all q.f1 q.f2 q.f3 q.f4 root w.heap.size l.length (puts l) _ HK.out hr.2.1 (hr.2.2 _) wr HM2.out)
        have HQ := Lib.hid hq
        clear hr hq
        go_wp2_with (go_at_call 20; ((with_reducible refine CN.out.mono ?_); rintro e w9 ⟨rfl, hb⟩; have HB9 := Aside0.mk (below_trans HB.out hb); clear hb))
        go_ret
        exact ⟨by rw [HQ.out]; rfl, HB9.out⟩

end Go.Proofs.Ytehcnjjkklogbaa.PfOwn
