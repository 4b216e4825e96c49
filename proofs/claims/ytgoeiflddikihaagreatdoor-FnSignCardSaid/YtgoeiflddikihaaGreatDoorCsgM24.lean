/- Merged by program out of: ReadSem. -/
import Derived.Test.YtgoeiflddikihaaGreatDoorCsgM3
import Derived.Test.YtgoeiflddikihaaGreatDoorCsgM10
import Derived.Deep.Cut
import Derived.Deep.CutRange
section
namespace Go.Proofs.YtgoeiflddikihaaGreatDoor.Ver
set_option linter.unusedSimpArgs false
set_option linter.unusedVariables false
open Go.RowKit Go.Proofs.YtgoeiflddikihaaGreatDoor.Dig Go.Proofs.YtgoeiflddikihaaGreatDoorW.PrintWords Go.Proofs.YtgoeiflddikihaaGreatDoor.Mem
abbrev zSem : Array Value := #[.int .u64 0, .int .u64 0, .int .u64 0, .int .i64 0, .slice none 0 0, .string ⟨#[]⟩]
instance : RowC Tryz.prog 50 6 := ⟨⟨_, Tryz.underlying50, rfl⟩, by kernel_rfl⟩
instance : OneC Tryz.prog 3 := ⟨⟨_, Tryz.underlying3, rfl⟩, by kernel_rfl⟩
instance : OneC Tryz.prog 46 := ⟨⟨_, Tryz.underlying46, rfl⟩, by kernel_rfl⟩
instance : OneC Tryz.prog 9 := ⟨⟨_, Tryz.underlying9, rfl⟩, by kernel_rfl⟩
instance : OneC Tryz.prog 48 := ⟨⟨_, Tryz.underlying48, rfl⟩, by kernel_rfl⟩
instance : ZeroC Tryz.prog 50 zSem := ⟨by kernel_rfl⟩
def SemAt (w : World) (base : Nat) (v : Value) (sv : SV) (cnt : Nat) : Prop :=
 ∃ P, v = .agg #[.int .u64 sv.major, .int .u64 sv.minor, .int .u64 sv.patch, .int .i64 cnt, P, .string sv.mt] ∧ StrsAt 9 w base P ((preParts sv.pre.data.toList).map mkB)
theorem SemAt.below {w w' : World} {base : Nat} {v : Value} {sv : SV} {cnt : Nat} (h : SemAt w base v sv cnt) (hb : Below w.heap.size w w') : SemAt w' base v sv cnt := by
 obtain ⟨P, h1, h2⟩ := h; exact ⟨P, h1, h2.below hb⟩
theorem SemAt.mono {w : World} {base base' : Nat} {v : Value} {sv : SV} {cnt : Nat} (h : SemAt w base v sv cnt) (hb : base' ≤ base) : SemAt w base' v sv cnt := by
 obtain ⟨P, h1, h2⟩ := h; exact ⟨P, h1, h2.mono hb⟩
theorem semOne {a b c d : Int} {P : Value} {m : ByteArray} (h : P.oneCell' = true) : (#[.int .u64 a, .int .u64 b, .int .u64 c, .int .i64 d, P, .string m] : Array Value).all (·.oneCell') = true := by
 simp only [List.all_toArray, List.all_cons, List.all_nil, h, Bool.and_true]; rfl
def RdNo (w : World) (e : Ending) (w' : World) : Prop := e = .returned (.tuple #[.agg zSem, .bool false]) ∧ Below w.heap.size w w'
def RdYes (n0 n1 n2 cnt : Int) (mt : ByteArray) (pp : List ByteArray) (w : World) (e : Ending) (w' : World) : Prop :=
 (∃ P, e = .returned (.tuple #[.agg #[.int .u64 n0, .int .u64 n1, .int .u64 n2, .int .i64 cnt, P, .string mt], .bool true]) ∧ StrsAt 9 w' w.heap.size P pp) ∧ Below w.heap.size w w'
def RdEnd (b : Bool) (n0 n1 n2 cnt : Int) (mt : ByteArray) (pp : List ByteArray) (w : World) (e : Ending) (w' : World) : Prop := match b with
 | false => RdNo w e w'
 | true => RdYes n0 n1 n2 cnt mt pp w e w'
def IdEnd (b : Bool) (pp : List ByteArray) (w : World) (e : Ending) (w' : World) : Prop := match b with
 | false => (∃ A n c, e = .returned (.tuple #[.slice A n c, .bool false])) ∧ Below w.heap.size w w'
 | true => ∃ g cap cells rest, e = .returned (.tuple #[.slice (some ⟨g, 0, none⟩) pp.length cap, .bool true]) ∧ w.heap.size ≤ g ∧ w'.heap[g]? = some (.cells cells 9 (0, 0)) ∧ cells.toList = pp.map Value.string ++ rest ∧ Below w.heap.size w w'
def IdW (b : Bool) (w : World) (e : Ending) (w' : World) : Prop := (∃ A n c, e = .returned (.tuple #[.slice A n c, .bool b])) ∧ Below w.heap.size w w'
theorem IdEnd.weak {b : Bool} {pp : List ByteArray} {w w' : World} {e : Ending} (h : IdEnd b pp w e w') : IdW b w e w' := by
 cases b
 ·exact h
 ·obtain ⟨g, cap, _, _, h1, _, _, _, h5⟩ := h; exact ⟨⟨_, _, _, h1⟩, h5⟩
def SpEnd (ps : List ByteArray) (w : World) (e : Ending) (w' : World) : Prop :=
 ∃ g cap cells rest, e = .returned (.slice (some ⟨g, 0, none⟩) ps.length cap) ∧ w.heap.size ≤ g ∧ w'.heap[g]? = some (.cells cells 9 (0, 0)) ∧ cells.toList = ps.map Value.string ++ rest ∧ Below w.heap.size w w'
def PreOk (pp : List ByteArray) (P : Value) (X : List Blk) : Prop := (P = .slice none 0 0 ∧ pp = [] ∧ X = []) ∨ ∃ g cap rest, P = .slice (some ⟨g, 0, none⟩) pp.length cap ∧ X = [(g, pp.map Value.string ++ rest, 9)]
theorem PreOk.one {pp : List ByteArray} {P : Value} {X : List Blk} (h : PreOk pp P X) : P.oneCell' = true := by
 rcases h with ⟨rfl, _, _⟩ | ⟨g, cap, rest, rfl, _⟩ <;> rfl
theorem PreOk.strs {pp : List ByteArray} {P : Value} {X Y : List Blk} {w0 w : World} (h : PreOk pp P X) (H : Blks w0 w (Y ++ X)) : StrsAt 9 w w0.heap.size P pp := by
 rcases h with ⟨rfl, rfl, rfl⟩ | ⟨g, cap, rest, rfl, rfl⟩
 ·exact Or.inl ⟨rfl, rfl⟩
 ·exact Blks.strs H (List.mem_append_right _ (List.mem_singleton.2 rfl))
set_option maxRecDepth 20000 in
set_option maxHeartbeats 8000000 in
theorem rs_meta (s s1 x1 mt : ByteArray) (hs1 : ∀ r : ByteArray, r.data.toList = bare0 s.data.toList → r = s1)
  (HC1' : ∀ W, Calls Tryz.prog 71 #[.string s1, .int .u8 43] W fun e w' => e = .returned (.tuple #[.string x1, .string mt, .bool true]) ∧ Drawn0 W w')
  (HI1' : ∀ W, Calls Tryz.prog 72 #[.string mt] W (IdW false W)) (w : World) :
  Calls Tryz.prog 34 #[.string s] w (RdNo w) := by
 have HC1 := Lib.hid HC1'
 clear HC1'
 have HI1 := Lib.hid HI1'
 clear HI1'
 have HM := Aside0.mk (Blks.start w)
 go_enter Tryz.func34, Tryz.ntmps34
 go_upto_region 1 with ((refine m_alloc n_own (h := ?_); intro br _ HN; clear HM; have HM := HN; clear HN))
 go_upto_region 2 with ((refine m_alloc n_own (h := ?_); intro bo _ HN; clear HM; have HM := HN; clear HN))
 go_simp
 go_cut [23] from 17 to 23 (fun v23 wx => v23 = .bool (begins s.data.toList 118) ∧ Aside0 (Blks w wx [(bo, zSem.toList, 50), (br, zSem.toList, 50)]))
 case first =>
  rcases Nat.eq_zero_or_pos s.size with h0 | h0
  ·have hem := isEmpty_true h0
   have hbg := begins_nil (c := 118) h0
   go_wp2_with fail
   go_meet
   case rel => exact ⟨by rw [hbg], ⟨n_own⟩⟩
  ·have hem := isEmpty_false h0
   have hbg := begins_at (c := 118) h0
   rw [← cast_beq] at hbg
   have HBG := Lib.hid hbg
   clear hbg
   go_wp2_with fail
   go_meet
   case rel => exact ⟨by rw [HBG.out]; rfl, ⟨n_own⟩⟩
 case rest =>
  clear HM
  obtain ⟨rfl, HM⟩ := hcut
  go_upto_if 23 with fail
  go_cut [0] from 23 to 25 (fun v0 wx => v0 = .string s1 ∧ Aside0 (Blks w wx [(bo, zSem.toList, 50), (br, zSem.toList, 50)]))
  case first =>
   cases hq : begins s.data.toList 118 with
   | false =>
    obtain rfl := hs1 s (bare0_of_not hq)
    go_wp2_with fail
    go_meet
    case rel => exact ⟨rfl, ⟨n_own⟩⟩
   | true =>
    have h0 := begins_pos hq
    obtain rfl := hs1 _ (bare0_v h0 (begins_one hq h0))
    go_wp2_with fail
    go_meet
    case rel => exact ⟨rfl, ⟨n_own⟩⟩
  case rest =>
  clear HM
  obtain ⟨rfl, HM⟩ := hcut
  go_wp2_with (first | (go_at_call 71; ((with_reducible refine (HC1.out _).mono ?_); rintro e wc ⟨rfl, ⟨nq, rfl⟩⟩; replace HM := n_drew nq)) | (go_at_call 72; ((with_reducible refine (HI1.out _).mono ?_); rintro e wi ⟨⟨A, n, c, rfl⟩, hb⟩; replace HM := n_call hb; clear hb)) | (refine m_build (by kernel_rfl) (h := ?_)) | (refine m_store n_own (h := ?_); intro _ HN; clear HM; have HM := HN; clear HN))
  have k0 := n_cell (b := br) (o := 0); have k1 := n_cell (b := br) (o := 1); have k2 := n_cell (b := br) (o := 2); have k3 := n_cell (b := br) (o := 3); have k4 := n_cell (b := br) (o := 4); have k5 := n_cell (b := br) (o := 5); refine bodyPost_ret (v := .tuple #[.agg zSem, .bool false]) (by simp [results, Tryz.results34, go_sem, *]) rfl ⟨rfl, HM.out.bel⟩
set_option maxRecDepth 20000 in
set_option maxHeartbeats 8000000 in
theorem rs_pre (s s1 x1 mt : ByteArray) (hs1 : ∀ r : ByteArray, r.data.toList = bare0 s.data.toList → r = s1) (x2 pre : ByteArray) (pp : List ByteArray) (has1 ok1 : Bool) (hg1 : (has1 && !ok1) = false)
  (HC1' : ∀ W, Calls Tryz.prog 71 #[.string s1, .int .u8 43] W fun e w' => e = .returned (.tuple #[.string x1, .string mt, .bool has1]) ∧ Drawn0 W w')
  (HI1' : ∀ W, Calls Tryz.prog 72 #[.string mt] W (IdW ok1 W))
  (HC2' : ∀ W, Calls Tryz.prog 71 #[.string x1, .int .u8 45] W fun e w' => e = .returned (.tuple #[.string x2, .string pre, .bool true]) ∧ Drawn0 W w')
  (HI2' : ∀ W, Calls Tryz.prog 72 #[.string pre] W (IdEnd false pp W)) (w : World) :
  Calls Tryz.prog 34 #[.string s] w (RdNo w) := by
 have HC1 := Lib.hid HC1'
 clear HC1'
 have HI1 := Lib.hid HI1'
 clear HI1'
 have HC2 := Lib.hid HC2'
 clear HC2'
 have HI2 := Lib.hid HI2'
 clear HI2'
 have HM := Aside0.mk (Blks.start w)
 go_enter Tryz.func34, Tryz.ntmps34
 go_upto_region 1 with ((refine m_alloc n_own (h := ?_); intro br _ HN; clear HM; have HM := HN; clear HN))
 go_upto_region 2 with ((refine m_alloc n_own (h := ?_); intro bo _ HN; clear HM; have HM := HN; clear HN))
 go_simp
 go_cut [23] from 17 to 23 (fun v23 wx => v23 = .bool (begins s.data.toList 118) ∧ Aside0 (Blks w wx [(bo, zSem.toList, 50), (br, zSem.toList, 50)]))
 case first =>
  rcases Nat.eq_zero_or_pos s.size with h0 | h0
  ·have hem := isEmpty_true h0
   have hbg := begins_nil (c := 118) h0
   go_wp2_with fail
   go_meet
   case rel => exact ⟨by rw [hbg], ⟨n_own⟩⟩
  ·have hem := isEmpty_false h0
   have hbg := begins_at (c := 118) h0
   rw [← cast_beq] at hbg
   have HBG := Lib.hid hbg
   clear hbg
   go_wp2_with fail
   go_meet
   case rel => exact ⟨by rw [HBG.out]; rfl, ⟨n_own⟩⟩
 case rest =>
  clear HM
  obtain ⟨rfl, HM⟩ := hcut
  go_upto_if 23 with fail
  go_cut [0] from 23 to 25 (fun v0 wx => v0 = .string s1 ∧ Aside0 (Blks w wx [(bo, zSem.toList, 50), (br, zSem.toList, 50)]))
  case first =>
   cases hq : begins s.data.toList 118 with
   | false =>
    obtain rfl := hs1 s (bare0_of_not hq)
    go_wp2_with fail
    go_meet
    case rel => exact ⟨rfl, ⟨n_own⟩⟩
   | true =>
    have h0 := begins_pos hq
    obtain rfl := hs1 _ (bare0_v h0 (begins_one hq h0))
    go_wp2_with fail
    go_meet
    case rel => exact ⟨rfl, ⟨n_own⟩⟩
  case rest =>
  clear HM
  obtain ⟨rfl, HM⟩ := hcut
  go_upto_region 6 with (first | (go_at_call 71; ((with_reducible refine (HC1.out _).mono ?_); rintro e wc ⟨rfl, ⟨nq, rfl⟩⟩; replace HM := n_drew nq)) | (go_at_call 72; ((with_reducible refine (HI1.out _).mono ?_); rintro e wi ⟨⟨A, n, c, rfl⟩, hb⟩; replace HM := n_call hb; clear hb)))
  go_cut [41] from 6 to 41 (fun v41 wx => v41 = .bool false ∧ Aside0 (Blks w wx [(bo, zSem.toList, 50), (br, zSem.toList, 50)]))
  case first =>
   cases has1
   ·go_wp2_with fail
    go_meet
    case rel => exact ⟨rfl, ⟨n_own⟩⟩
   ·cases ok1
    ·exact absurd hg1 (by decide)
    ·go_wp2_with fail
     go_meet
     case rel => exact ⟨rfl, ⟨n_own⟩⟩
  case rest =>
  clear HM
  obtain ⟨rfl, HM⟩ := hcut
  go_wp2_with (first | (go_at_call 71; ((with_reducible refine (HC2.out _).mono ?_); rintro e wc ⟨rfl, ⟨nq, rfl⟩⟩; replace HM := n_drew nq)) | (go_at_call 72; ((with_reducible refine (HI2.out _).mono ?_); rintro e wi ⟨⟨A, n, c, rfl⟩, hb⟩; replace HM := n_call hb; clear hb)) | (refine m_store1 n_own (hy := (by first | exact (rfl : _ = Value.bool _) | exact (rfl : _ = Value.int _ _) | exact (rfl : _ = Value.string _) | exact (rfl : _ = Value.slice _ _ _) | exact (rfl : _ = Value.iface _ _) | exact (rfl : _ = Value.nilIface) | exact (rfl : _ = Value.pointer _))) (h := ?_); intro _ HN; clear HM; have HM := HN; clear HN) | (refine m_build (by kernel_rfl) (h := ?_)) | (refine m_store n_own (h := ?_); intro _ HN; clear HM; have HM := HN; clear HN))
  have k0 := n_cell (b := br) (o := 0); have k1 := n_cell (b := br) (o := 1); have k2 := n_cell (b := br) (o := 2); have k3 := n_cell (b := br) (o := 3); have k4 := n_cell (b := br) (o := 4); have k5 := n_cell (b := br) (o := 5); refine bodyPost_ret (v := .tuple #[.agg zSem, .bool false]) (by simp [results, Tryz.results34, go_sem, *]) rfl ⟨rfl, HM.out.bel⟩
set_option maxRecDepth 20000 in
set_option maxHeartbeats 8000000 in
theorem rs_n4 (s s1 x1 mt : ByteArray) (hs1 : ∀ r : ByteArray, r.data.toList = bare0 s.data.toList → r = s1) (x2 pre : ByteArray) (pp : List ByteArray) (p q r t : ByteArray) (u : List ByteArray) (has1 ok1 has2 ok2 : Bool) (hg1 : (has1 && !ok1) = false) (hg2 : (has2 && !ok2) = false) (hpp : has2 = false → pp = [])
  (HC1' : ∀ W, Calls Tryz.prog 71 #[.string s1, .int .u8 43] W fun e w' => e = .returned (.tuple #[.string x1, .string mt, .bool has1]) ∧ Drawn0 W w')
  (HI1' : ∀ W, Calls Tryz.prog 72 #[.string mt] W (IdW ok1 W))
  (HC2' : ∀ W, Calls Tryz.prog 71 #[.string x1, .int .u8 45] W fun e w' => e = .returned (.tuple #[.string x2, .string pre, .bool has2]) ∧ Drawn0 W w')
  (HI2' : ∀ W, Calls Tryz.prog 72 #[.string pre] W (IdEnd ok2 pp W))
  (HS' : ∀ W, Calls Tryz.prog 73 #[.string x2, .int .u8 46] W (SpEnd (p :: q :: r :: t :: u) W)) (w : World) :
  Calls Tryz.prog 34 #[.string s] w (RdNo w) := by
 have HPP := Lib.hid hpp
 clear hpp
 have HC1 := Lib.hid HC1'
 clear HC1'
 have HI1 := Lib.hid HI1'
 clear HI1'
 have HC2 := Lib.hid HC2'
 clear HC2'
 have HI2 := Lib.hid HI2'
 clear HI2'
 have HS := Lib.hid HS'
 clear HS'
 have hgt : ¬ (u.length + 1 + 1 + 1 + 1 ≤ 3) := by omega
 have hgt2 : (3 : Int) < ((u.length + 1 + 1 + 1 + 1 : Nat) : Int) := by omega
 have hgt3 : (3 : Int) < (u.length : Int) + 1 + 1 + 1 + 1 := by omega
 have hgt4 : 3 < u.length + 1 + 1 + 1 + 1 := by omega
 have HM := Aside0.mk (Blks.start w)
 go_enter Tryz.func34, Tryz.ntmps34
 go_upto_region 1 with ((refine m_alloc n_own (h := ?_); intro br _ HN; clear HM; have HM := HN; clear HN))
 go_upto_region 2 with ((refine m_alloc n_own (h := ?_); intro bo _ HN; clear HM; have HM := HN; clear HN))
 go_simp
 go_cut [23] from 17 to 23 (fun v23 wx => v23 = .bool (begins s.data.toList 118) ∧ Aside0 (Blks w wx [(bo, zSem.toList, 50), (br, zSem.toList, 50)]))
 case first =>
  rcases Nat.eq_zero_or_pos s.size with h0 | h0
  ·have hem := isEmpty_true h0
   have hbg := begins_nil (c := 118) h0
   go_wp2_with fail
   go_meet
   case rel => exact ⟨by rw [hbg], ⟨n_own⟩⟩
  ·have hem := isEmpty_false h0
   have hbg := begins_at (c := 118) h0
   rw [← cast_beq] at hbg
   have HBG := Lib.hid hbg
   clear hbg
   go_wp2_with fail
   go_meet
   case rel => exact ⟨by rw [HBG.out]; rfl, ⟨n_own⟩⟩
 case rest =>
  clear HM
  obtain ⟨rfl, HM⟩ := hcut
  go_upto_if 23 with fail
  go_cut [0] from 23 to 25 (fun v0 wx => v0 = .string s1 ∧ Aside0 (Blks w wx [(bo, zSem.toList, 50), (br, zSem.toList, 50)]))
  case first =>
   cases hq : begins s.data.toList 118 with
   | false =>
    obtain rfl := hs1 s (bare0_of_not hq)
    go_wp2_with fail
    go_meet
    case rel => exact ⟨rfl, ⟨n_own⟩⟩
   | true =>
    have h0 := begins_pos hq
    obtain rfl := hs1 _ (bare0_v h0 (begins_one hq h0))
    go_wp2_with fail
    go_meet
    case rel => exact ⟨rfl, ⟨n_own⟩⟩
  case rest =>
  clear HM
  obtain ⟨rfl, HM⟩ := hcut
  go_upto_region 6 with (first | (go_at_call 71; ((with_reducible refine (HC1.out _).mono ?_); rintro e wc ⟨rfl, ⟨nq, rfl⟩⟩; replace HM := n_drew nq)) | (go_at_call 72; ((with_reducible refine (HI1.out _).mono ?_); rintro e wi ⟨⟨A, n, c, rfl⟩, hb⟩; replace HM := n_call hb; clear hb)))
  go_cut [41] from 6 to 41 (fun v41 wx => v41 = .bool false ∧ Aside0 (Blks w wx [(bo, zSem.toList, 50), (br, zSem.toList, 50)]))
  case first =>
   cases has1
   ·go_wp2_with fail
    go_meet
    case rel => exact ⟨rfl, ⟨n_own⟩⟩
   ·cases ok1
    ·exact absurd hg1 (by decide)
    ·go_wp2_with fail
     go_meet
     case rel => exact ⟨rfl, ⟨n_own⟩⟩
  case rest =>
  clear HM
  obtain ⟨rfl, HM⟩ := hcut
  go_upto_if 51 with (first | (refine m_store1 n_own (hy := (by first | exact (rfl : _ = Value.bool _) | exact (rfl : _ = Value.int _ _) | exact (rfl : _ = Value.string _) | exact (rfl : _ = Value.slice _ _ _) | exact (rfl : _ = Value.iface _ _) | exact (rfl : _ = Value.nilIface) | exact (rfl : _ = Value.pointer _))) (h := ?_); intro _ HN; clear HM; have HM := HN; clear HN) | (go_at_call 71; ((with_reducible refine (HC2.out _).mono ?_); rintro e wc ⟨rfl, ⟨nq, rfl⟩⟩; replace HM := n_drew nq)))
  go_cut [9] from 6 to 61 (fun v9 wx => v9 = .string pre ∧ ∃ P X, PreOk pp P X ∧ Aside0 (Blks w wx ((bo, [.int .u64 0, .int .u64 0, .int .u64 0, .int .i64 0, P, .string mt], 50) :: (br, zSem.toList, 50) :: X)))
  case first =>
   cases has2
   ·go_wp2_with fail
    go_meet
    case rel => exact ⟨rfl, _, _, Or.inl ⟨rfl, HPP.out (by trivial), rfl⟩, ⟨n_own⟩⟩
   ·cases ok2
    ·exact absurd hg2 (by decide)
    ·go_wp2_with (first | (refine m_store1 n_own (hy := (by first | exact (rfl : _ = Value.bool _) | exact (rfl : _ = Value.int _ _) | exact (rfl : _ = Value.string _) | exact (rfl : _ = Value.slice _ _ _) | exact (rfl : _ = Value.iface _ _) | exact (rfl : _ = Value.nilIface) | exact (rfl : _ = Value.pointer _))) (h := ?_); intro _ HN; clear HM; have HM := HN; clear HN) | (go_at_call 72; ((with_reducible refine (HI2.out _).mono ?_); rintro e wi ⟨gp, capp, cellsp, restp, rfl, hg, hc, hl, hb⟩; have HN := Aside0.mk (Blks.add n_own hb hg hc hl); clear HM hb hg hc hl; have HM := HN; clear HN)))
     go_meet
     case rel => exact ⟨rfl, _, _, Or.inr ⟨_, _, _, rfl, rfl⟩, ⟨(Blks.turn3 n_own)⟩⟩
  case rest =>
  clear HM
  obtain ⟨rfl, P, X, HP, HM⟩ := hcut
  go_wp2_with (first | (go_at_call 73; ((with_reducible refine (HS.out _).mono ?_); rintro e ws ⟨gs, caps, cellss, rests, rfl, hg, hc, hl, hb⟩; simp only [List.map, List.cons_append, List.nil_append] at hl; have HN := Aside0.mk (Blks.add n_own hb hg hc hl); clear HM hb hg hc hl; have HM := HN; clear HN)) | (refine m_build (by kernel_rfl) (h := ?_)) | (refine m_store n_own (h := ?_); intro _ HN; clear HM; have HM := HN; clear HN))
  have k0 := n_cell (b := br) (o := 0); have k1 := n_cell (b := br) (o := 1); have k2 := n_cell (b := br) (o := 2); have k3 := n_cell (b := br) (o := 3); have k4 := n_cell (b := br) (o := 4); have k5 := n_cell (b := br) (o := 5); refine bodyPost_ret (v := .tuple #[.agg zSem, .bool false]) (by simp [results, Tryz.results34, go_sem, *]) rfl ⟨rfl, HM.out.bel⟩
set_option maxRecDepth 20000 in
set_option maxHeartbeats 8000000 in
theorem rs_n1 (s s1 x1 mt : ByteArray) (hs1 : ∀ r : ByteArray, r.data.toList = bare0 s.data.toList → r = s1) (x2 pre : ByteArray) (pp : List ByteArray) (p : ByteArray) (has1 ok1 has2 ok2 : Bool) (hg1 : (has1 && !ok1) = false) (hg2 : (has2 && !ok2) = false) (hpp : has2 = false → pp = [])
  (HC1' : ∀ W, Calls Tryz.prog 71 #[.string s1, .int .u8 43] W fun e w' => e = .returned (.tuple #[.string x1, .string mt, .bool has1]) ∧ Drawn0 W w')
  (HI1' : ∀ W, Calls Tryz.prog 72 #[.string mt] W (IdW ok1 W))
  (HC2' : ∀ W, Calls Tryz.prog 71 #[.string x1, .int .u8 45] W fun e w' => e = .returned (.tuple #[.string x2, .string pre, .bool has2]) ∧ Drawn0 W w')
  (HI2' : ∀ W, Calls Tryz.prog 72 #[.string pre] W (IdEnd ok2 pp W))
  (HS' : ∀ W, Calls Tryz.prog 73 #[.string x2, .int .u8 46] W (SpEnd [p] W)) (n0 : Int) (b0 : Bool) (HN0' : ∀ W, Calls Tryz.prog 74 #[.string p] W fun e w' => e = .returned (.tuple #[.int .u64 n0, .bool b0]) ∧ Drawn0 W w') (w : World) :
  Calls Tryz.prog 34 #[.string s] w (RdEnd (b0) n0 0 0 1 mt pp w) := by
 have HPP := Lib.hid hpp
 clear hpp
 have HC1 := Lib.hid HC1'
 clear HC1'
 have HI1 := Lib.hid HI1'
 clear HI1'
 have HC2 := Lib.hid HC2'
 clear HC2'
 have HI2 := Lib.hid HI2'
 clear HI2'
 have HS := Lib.hid HS'
 clear HS'
 have HN0 := Lib.hid HN0'
 clear HN0'
 have HM := Aside0.mk (Blks.start w)
 go_enter Tryz.func34, Tryz.ntmps34
 go_upto_region 1 with ((refine m_alloc n_own (h := ?_); intro br _ HN; clear HM; have HM := HN; clear HN))
 go_upto_region 2 with ((refine m_alloc n_own (h := ?_); intro bo _ HN; clear HM; have HM := HN; clear HN))
 go_simp
 go_cut [23] from 17 to 23 (fun v23 wx => v23 = .bool (begins s.data.toList 118) ∧ Aside0 (Blks w wx [(bo, zSem.toList, 50), (br, zSem.toList, 50)]))
 case first =>
  rcases Nat.eq_zero_or_pos s.size with h0 | h0
  ·have hem := isEmpty_true h0
   have hbg := begins_nil (c := 118) h0
   go_wp2_with fail
   go_meet
   case rel => exact ⟨by rw [hbg], ⟨n_own⟩⟩
  ·have hem := isEmpty_false h0
   have hbg := begins_at (c := 118) h0
   rw [← cast_beq] at hbg
   have HBG := Lib.hid hbg
   clear hbg
   go_wp2_with fail
   go_meet
   case rel => exact ⟨by rw [HBG.out]; rfl, ⟨n_own⟩⟩
 case rest =>
  clear HM
  obtain ⟨rfl, HM⟩ := hcut
  go_upto_if 23 with fail
  go_cut [0] from 23 to 25 (fun v0 wx => v0 = .string s1 ∧ Aside0 (Blks w wx [(bo, zSem.toList, 50), (br, zSem.toList, 50)]))
  case first =>
   cases hq : begins s.data.toList 118 with
   | false =>
    obtain rfl := hs1 s (bare0_of_not hq)
    go_wp2_with fail
    go_meet
    case rel => exact ⟨rfl, ⟨n_own⟩⟩
   | true =>
    have h0 := begins_pos hq
    obtain rfl := hs1 _ (bare0_v h0 (begins_one hq h0))
    go_wp2_with fail
    go_meet
    case rel => exact ⟨rfl, ⟨n_own⟩⟩
  case rest =>
  clear HM
  obtain ⟨rfl, HM⟩ := hcut
  go_upto_region 6 with (first | (go_at_call 71; ((with_reducible refine (HC1.out _).mono ?_); rintro e wc ⟨rfl, ⟨nq, rfl⟩⟩; replace HM := n_drew nq)) | (go_at_call 72; ((with_reducible refine (HI1.out _).mono ?_); rintro e wi ⟨⟨A, n, c, rfl⟩, hb⟩; replace HM := n_call hb; clear hb)))
  go_cut [41] from 6 to 41 (fun v41 wx => v41 = .bool false ∧ Aside0 (Blks w wx [(bo, zSem.toList, 50), (br, zSem.toList, 50)]))
  case first =>
   cases has1
   ·go_wp2_with fail
    go_meet
    case rel => exact ⟨rfl, ⟨n_own⟩⟩
   ·cases ok1
    ·exact absurd hg1 (by decide)
    ·go_wp2_with fail
     go_meet
     case rel => exact ⟨rfl, ⟨n_own⟩⟩
  case rest =>
  clear HM
  obtain ⟨rfl, HM⟩ := hcut
  go_upto_if 51 with (first | (refine m_store1 n_own (hy := (by first | exact (rfl : _ = Value.bool _) | exact (rfl : _ = Value.int _ _) | exact (rfl : _ = Value.string _) | exact (rfl : _ = Value.slice _ _ _) | exact (rfl : _ = Value.iface _ _) | exact (rfl : _ = Value.nilIface) | exact (rfl : _ = Value.pointer _))) (h := ?_); intro _ HN; clear HM; have HM := HN; clear HN) | (go_at_call 71; ((with_reducible refine (HC2.out _).mono ?_); rintro e wc ⟨rfl, ⟨nq, rfl⟩⟩; replace HM := n_drew nq)))
  go_cut [9] from 6 to 61 (fun v9 wx => v9 = .string pre ∧ ∃ P X, PreOk pp P X ∧ Aside0 (Blks w wx ((bo, [.int .u64 0, .int .u64 0, .int .u64 0, .int .i64 0, P, .string mt], 50) :: (br, zSem.toList, 50) :: X)))
  case first =>
   cases has2
   ·go_wp2_with fail
    go_meet
    case rel => exact ⟨rfl, _, _, Or.inl ⟨rfl, HPP.out (by trivial), rfl⟩, ⟨n_own⟩⟩
   ·cases ok2
    ·exact absurd hg2 (by decide)
    ·go_wp2_with (first | (refine m_store1 n_own (hy := (by first | exact (rfl : _ = Value.bool _) | exact (rfl : _ = Value.int _ _) | exact (rfl : _ = Value.string _) | exact (rfl : _ = Value.slice _ _ _) | exact (rfl : _ = Value.iface _ _) | exact (rfl : _ = Value.nilIface) | exact (rfl : _ = Value.pointer _))) (h := ?_); intro _ HN; clear HM; have HM := HN; clear HN) | (go_at_call 72; ((with_reducible refine (HI2.out _).mono ?_); rintro e wi ⟨gp, capp, cellsp, restp, rfl, hg, hc, hl, hb⟩; have HN := Aside0.mk (Blks.add n_own hb hg hc hl); clear HM hb hg hc hl; have HM := HN; clear HN)))
     go_meet
     case rel => exact ⟨rfl, _, _, Or.inr ⟨_, _, _, rfl, rfl⟩, ⟨(Blks.turn3 n_own)⟩⟩
  case rest =>
  clear HM
  obtain ⟨rfl, P, X, HP, HM⟩ := hcut
  go_wp2_with (go_at_call 73; ((with_reducible refine (HS.out _).mono ?_); rintro e ws ⟨gs, caps, cellss, rests, rfl, hg, hc, hl, hb⟩; simp only [List.map, List.cons_append, List.nil_append] at hl; have HN := Aside0.mk (Blks.add n_own hb hg hc hl); clear HM hb hg hc hl; have HM := HN; clear HN))
  refine wp_loop_rounds 2 ?_
  rw [rounds_succ]
  go_upto_if 81 with (first | refine n_ld1 ?_ | (go_at_call 74; ((with_reducible refine (HN0.out _).mono ?_); rintro e wn ⟨rfl, ⟨nq, rfl⟩⟩; replace HM := n_drew nq)))
  cases b0
  ·go_wp2_with (first | (refine m_build (by kernel_rfl) (h := ?_)) | (refine m_store n_own (h := ?_); intro _ HN; clear HM; have HM := HN; clear HN))
   (try simp only [Exit.inBlock, Exit.then])
   have k0 := n_cell (b := br) (o := 0); have k1 := n_cell (b := br) (o := 1); have k2 := n_cell (b := br) (o := 2); have k3 := n_cell (b := br) (o := 3); have k4 := n_cell (b := br) (o := 4); have k5 := n_cell (b := br) (o := 5); refine bodyPost_ret (v := .tuple #[.agg zSem, .bool false]) (by simp [results, Tryz.results34, go_sem, *]) rfl ⟨rfl, HM.out.bel⟩
  go_wp2_with (refine m_store1 n_own (hy := (by first | exact (rfl : _ = Value.bool _) | exact (rfl : _ = Value.int _ _) | exact (rfl : _ = Value.string _) | exact (rfl : _ = Value.slice _ _ _) | exact (rfl : _ = Value.iface _ _) | exact (rfl : _ = Value.nilIface) | exact (rfl : _ = Value.pointer _))) (h := ?_); intro _ HN; clear HM; have HM := HN; clear HN)
  rw [rounds_succ]
  have HO := Lib.hid HP.one
  go_wp2_with (first | (refine m_store1 n_own (hy := (by first | exact (rfl : _ = Value.bool _) | exact (rfl : _ = Value.int _ _) | exact (rfl : _ = Value.string _) | exact (rfl : _ = Value.slice _ _ _) | exact (rfl : _ = Value.iface _ _) | exact (rfl : _ = Value.nilIface) | exact (rfl : _ = Value.pointer _))) (h := ?_); intro _ HN; clear HM; have HM := HN; clear HN) | refine n_ld ?_ | (refine m_store n_own (h1 := semOne HO.out) (h := ?_); intro _ HN; clear HM; have HM := HN; clear HN))
  have k0 := n_cell (b := br) (o := 0); have k1 := n_cell (b := br) (o := 1); have k2 := n_cell (b := br) (o := 2); have k3 := n_cell (b := br) (o := 3); have k4 := n_cell (b := br) (o := 4); have k5 := n_cell (b := br) (o := 5); refine bodyPost_ret (v := .tuple #[.agg #[.int .u64 n0, .int .u64 0, .int .u64 0, .int .i64 1, P, .string mt], .bool true]) (by simp [results, Tryz.results34, go_sem, *]) rfl ⟨⟨P, rfl, HP.strs (Y := [_, _, _]) HM.out⟩, HM.out.bel⟩
set_option maxRecDepth 20000 in
set_option maxHeartbeats 8000000 in
theorem rs_n2 (s s1 x1 mt : ByteArray) (hs1 : ∀ r : ByteArray, r.data.toList = bare0 s.data.toList → r = s1) (x2 pre : ByteArray) (pp : List ByteArray) (p q : ByteArray) (has1 ok1 has2 ok2 : Bool) (hg1 : (has1 && !ok1) = false) (hg2 : (has2 && !ok2) = false) (hpp : has2 = false → pp = [])
  (HC1' : ∀ W, Calls Tryz.prog 71 #[.string s1, .int .u8 43] W fun e w' => e = .returned (.tuple #[.string x1, .string mt, .bool has1]) ∧ Drawn0 W w')
  (HI1' : ∀ W, Calls Tryz.prog 72 #[.string mt] W (IdW ok1 W))
  (HC2' : ∀ W, Calls Tryz.prog 71 #[.string x1, .int .u8 45] W fun e w' => e = .returned (.tuple #[.string x2, .string pre, .bool has2]) ∧ Drawn0 W w')
  (HI2' : ∀ W, Calls Tryz.prog 72 #[.string pre] W (IdEnd ok2 pp W))
  (HS' : ∀ W, Calls Tryz.prog 73 #[.string x2, .int .u8 46] W (SpEnd [p, q] W)) (n0 : Int) (b0 : Bool) (HN0' : ∀ W, Calls Tryz.prog 74 #[.string p] W fun e w' => e = .returned (.tuple #[.int .u64 n0, .bool b0]) ∧ Drawn0 W w') (n1 : Int) (b1 : Bool) (HN1' : ∀ W, Calls Tryz.prog 74 #[.string q] W fun e w' => e = .returned (.tuple #[.int .u64 n1, .bool b1]) ∧ Drawn0 W w') (w : World) :
  Calls Tryz.prog 34 #[.string s] w (RdEnd (b0 && b1) n0 n1 0 2 mt pp w) := by
 have HPP := Lib.hid hpp
 clear hpp
 have HC1 := Lib.hid HC1'
 clear HC1'
 have HI1 := Lib.hid HI1'
 clear HI1'
 have HC2 := Lib.hid HC2'
 clear HC2'
 have HI2 := Lib.hid HI2'
 clear HI2'
 have HS := Lib.hid HS'
 clear HS'
 have HN0 := Lib.hid HN0'
 clear HN0'
 have HN1 := Lib.hid HN1'
 clear HN1'
 have HM := Aside0.mk (Blks.start w)
 go_enter Tryz.func34, Tryz.ntmps34
 go_upto_region 1 with ((refine m_alloc n_own (h := ?_); intro br _ HN; clear HM; have HM := HN; clear HN))
 go_upto_region 2 with ((refine m_alloc n_own (h := ?_); intro bo _ HN; clear HM; have HM := HN; clear HN))
 go_simp
 go_cut [23] from 17 to 23 (fun v23 wx => v23 = .bool (begins s.data.toList 118) ∧ Aside0 (Blks w wx [(bo, zSem.toList, 50), (br, zSem.toList, 50)]))
 case first =>
  rcases Nat.eq_zero_or_pos s.size with h0 | h0
  ·have hem := isEmpty_true h0
   have hbg := begins_nil (c := 118) h0
   go_wp2_with fail
   go_meet
   case rel => exact ⟨by rw [hbg], ⟨n_own⟩⟩
  ·have hem := isEmpty_false h0
   have hbg := begins_at (c := 118) h0
   rw [← cast_beq] at hbg
   have HBG := Lib.hid hbg
   clear hbg
   go_wp2_with fail
   go_meet
   case rel => exact ⟨by rw [HBG.out]; rfl, ⟨n_own⟩⟩
 case rest =>
  clear HM
  obtain ⟨rfl, HM⟩ := hcut
  go_upto_if 23 with fail
  go_cut [0] from 23 to 25 (fun v0 wx => v0 = .string s1 ∧ Aside0 (Blks w wx [(bo, zSem.toList, 50), (br, zSem.toList, 50)]))
  case first =>
   cases hq : begins s.data.toList 118 with
   | false =>
    obtain rfl := hs1 s (bare0_of_not hq)
    go_wp2_with fail
    go_meet
    case rel => exact ⟨rfl, ⟨n_own⟩⟩
   | true =>
    have h0 := begins_pos hq
    obtain rfl := hs1 _ (bare0_v h0 (begins_one hq h0))
    go_wp2_with fail
    go_meet
    case rel => exact ⟨rfl, ⟨n_own⟩⟩
  case rest =>
  clear HM
  obtain ⟨rfl, HM⟩ := hcut
  go_upto_region 6 with (first | (go_at_call 71; ((with_reducible refine (HC1.out _).mono ?_); rintro e wc ⟨rfl, ⟨nq, rfl⟩⟩; replace HM := n_drew nq)) | (go_at_call 72; ((with_reducible refine (HI1.out _).mono ?_); rintro e wi ⟨⟨A, n, c, rfl⟩, hb⟩; replace HM := n_call hb; clear hb)))
  go_cut [41] from 6 to 41 (fun v41 wx => v41 = .bool false ∧ Aside0 (Blks w wx [(bo, zSem.toList, 50), (br, zSem.toList, 50)]))
  case first =>
   cases has1
   ·go_wp2_with fail
    go_meet
    case rel => exact ⟨rfl, ⟨n_own⟩⟩
   ·cases ok1
    ·exact absurd hg1 (by decide)
    ·go_wp2_with fail
     go_meet
     case rel => exact ⟨rfl, ⟨n_own⟩⟩
  case rest =>
  clear HM
  obtain ⟨rfl, HM⟩ := hcut
  go_upto_if 51 with (first | (refine m_store1 n_own (hy := (by first | exact (rfl : _ = Value.bool _) | exact (rfl : _ = Value.int _ _) | exact (rfl : _ = Value.string _) | exact (rfl : _ = Value.slice _ _ _) | exact (rfl : _ = Value.iface _ _) | exact (rfl : _ = Value.nilIface) | exact (rfl : _ = Value.pointer _))) (h := ?_); intro _ HN; clear HM; have HM := HN; clear HN) | (go_at_call 71; ((with_reducible refine (HC2.out _).mono ?_); rintro e wc ⟨rfl, ⟨nq, rfl⟩⟩; replace HM := n_drew nq)))
  go_cut [9] from 6 to 61 (fun v9 wx => v9 = .string pre ∧ ∃ P X, PreOk pp P X ∧ Aside0 (Blks w wx ((bo, [.int .u64 0, .int .u64 0, .int .u64 0, .int .i64 0, P, .string mt], 50) :: (br, zSem.toList, 50) :: X)))
  case first =>
   cases has2
   ·go_wp2_with fail
    go_meet
    case rel => exact ⟨rfl, _, _, Or.inl ⟨rfl, HPP.out (by trivial), rfl⟩, ⟨n_own⟩⟩
   ·cases ok2
    ·exact absurd hg2 (by decide)
    ·go_wp2_with (first | (refine m_store1 n_own (hy := (by first | exact (rfl : _ = Value.bool _) | exact (rfl : _ = Value.int _ _) | exact (rfl : _ = Value.string _) | exact (rfl : _ = Value.slice _ _ _) | exact (rfl : _ = Value.iface _ _) | exact (rfl : _ = Value.nilIface) | exact (rfl : _ = Value.pointer _))) (h := ?_); intro _ HN; clear HM; have HM := HN; clear HN) | (go_at_call 72; ((with_reducible refine (HI2.out _).mono ?_); rintro e wi ⟨gp, capp, cellsp, restp, rfl, hg, hc, hl, hb⟩; have HN := Aside0.mk (Blks.add n_own hb hg hc hl); clear HM hb hg hc hl; have HM := HN; clear HN)))
     go_meet
     case rel => exact ⟨rfl, _, _, Or.inr ⟨_, _, _, rfl, rfl⟩, ⟨(Blks.turn3 n_own)⟩⟩
  case rest =>
  clear HM
  obtain ⟨rfl, P, X, HP, HM⟩ := hcut
  go_wp2_with (go_at_call 73; ((with_reducible refine (HS.out _).mono ?_); rintro e ws ⟨gs, caps, cellss, rests, rfl, hg, hc, hl, hb⟩; simp only [List.map, List.cons_append, List.nil_append] at hl; have HN := Aside0.mk (Blks.add n_own hb hg hc hl); clear HM hb hg hc hl; have HM := HN; clear HN))
  refine wp_loop_rounds 3 ?_
  rw [rounds_succ]
  go_upto_if 81 with (first | refine n_ld1 ?_ | (go_at_call 74; ((with_reducible refine (HN0.out _).mono ?_); rintro e wn ⟨rfl, ⟨nq, rfl⟩⟩; replace HM := n_drew nq)))
  cases b0
  ·go_wp2_with (first | (refine m_build (by kernel_rfl) (h := ?_)) | (refine m_store n_own (h := ?_); intro _ HN; clear HM; have HM := HN; clear HN))
   (try simp only [Exit.inBlock, Exit.then])
   have k0 := n_cell (b := br) (o := 0); have k1 := n_cell (b := br) (o := 1); have k2 := n_cell (b := br) (o := 2); have k3 := n_cell (b := br) (o := 3); have k4 := n_cell (b := br) (o := 4); have k5 := n_cell (b := br) (o := 5); refine bodyPost_ret (v := .tuple #[.agg zSem, .bool false]) (by simp [results, Tryz.results34, go_sem, *]) rfl ⟨rfl, HM.out.bel⟩
  go_wp2_with (refine m_store1 n_own (hy := (by first | exact (rfl : _ = Value.bool _) | exact (rfl : _ = Value.int _ _) | exact (rfl : _ = Value.string _) | exact (rfl : _ = Value.slice _ _ _) | exact (rfl : _ = Value.iface _ _) | exact (rfl : _ = Value.nilIface) | exact (rfl : _ = Value.pointer _))) (h := ?_); intro _ HN; clear HM; have HM := HN; clear HN)
  rw [rounds_succ]
  go_upto_if 81 with (first | refine n_ld1 ?_ | (go_at_call 74; ((with_reducible refine (HN1.out _).mono ?_); rintro e wn ⟨rfl, ⟨nq, rfl⟩⟩; replace HM := n_drew nq)))
  cases b1
  ·go_wp2_with (first | (refine m_build (by kernel_rfl) (h := ?_)) | (refine m_store n_own (h := ?_); intro _ HN; clear HM; have HM := HN; clear HN))
   (try simp only [Exit.inBlock, Exit.then])
   have k0 := n_cell (b := br) (o := 0); have k1 := n_cell (b := br) (o := 1); have k2 := n_cell (b := br) (o := 2); have k3 := n_cell (b := br) (o := 3); have k4 := n_cell (b := br) (o := 4); have k5 := n_cell (b := br) (o := 5); refine bodyPost_ret (v := .tuple #[.agg zSem, .bool false]) (by simp [results, Tryz.results34, go_sem, *]) rfl ⟨rfl, HM.out.bel⟩
  go_wp2_with (refine m_store1 n_own (hy := (by first | exact (rfl : _ = Value.bool _) | exact (rfl : _ = Value.int _ _) | exact (rfl : _ = Value.string _) | exact (rfl : _ = Value.slice _ _ _) | exact (rfl : _ = Value.iface _ _) | exact (rfl : _ = Value.nilIface) | exact (rfl : _ = Value.pointer _))) (h := ?_); intro _ HN; clear HM; have HM := HN; clear HN)
  rw [rounds_succ]
  have HO := Lib.hid HP.one
  go_wp2_with (first | (refine m_store1 n_own (hy := (by first | exact (rfl : _ = Value.bool _) | exact (rfl : _ = Value.int _ _) | exact (rfl : _ = Value.string _) | exact (rfl : _ = Value.slice _ _ _) | exact (rfl : _ = Value.iface _ _) | exact (rfl : _ = Value.nilIface) | exact (rfl : _ = Value.pointer _))) (h := ?_); intro _ HN; clear HM; have HM := HN; clear HN) | refine n_ld ?_ | (refine m_store n_own (h1 := semOne HO.out) (h := ?_); intro _ HN; clear HM; have HM := HN; clear HN))
  have k0 := n_cell (b := br) (o := 0); have k1 := n_cell (b := br) (o := 1); have k2 := n_cell (b := br) (o := 2); have k3 := n_cell (b := br) (o := 3); have k4 := n_cell (b := br) (o := 4); have k5 := n_cell (b := br) (o := 5); refine bodyPost_ret (v := .tuple #[.agg #[.int .u64 n0, .int .u64 n1, .int .u64 0, .int .i64 2, P, .string mt], .bool true]) (by simp [results, Tryz.results34, go_sem, *]) rfl ⟨⟨P, rfl, HP.strs (Y := [_, _, _]) HM.out⟩, HM.out.bel⟩
set_option maxRecDepth 20000 in
set_option maxHeartbeats 8000000 in
theorem rs_n3 (s s1 x1 mt : ByteArray) (hs1 : ∀ r : ByteArray, r.data.toList = bare0 s.data.toList → r = s1) (x2 pre : ByteArray) (pp : List ByteArray) (p q r : ByteArray) (has1 ok1 has2 ok2 : Bool) (hg1 : (has1 && !ok1) = false) (hg2 : (has2 && !ok2) = false) (hpp : has2 = false → pp = [])
  (HC1' : ∀ W, Calls Tryz.prog 71 #[.string s1, .int .u8 43] W fun e w' => e = .returned (.tuple #[.string x1, .string mt, .bool has1]) ∧ Drawn0 W w')
  (HI1' : ∀ W, Calls Tryz.prog 72 #[.string mt] W (IdW ok1 W))
  (HC2' : ∀ W, Calls Tryz.prog 71 #[.string x1, .int .u8 45] W fun e w' => e = .returned (.tuple #[.string x2, .string pre, .bool has2]) ∧ Drawn0 W w')
  (HI2' : ∀ W, Calls Tryz.prog 72 #[.string pre] W (IdEnd ok2 pp W))
  (HS' : ∀ W, Calls Tryz.prog 73 #[.string x2, .int .u8 46] W (SpEnd [p, q, r] W)) (n0 : Int) (b0 : Bool) (HN0' : ∀ W, Calls Tryz.prog 74 #[.string p] W fun e w' => e = .returned (.tuple #[.int .u64 n0, .bool b0]) ∧ Drawn0 W w') (n1 : Int) (b1 : Bool) (HN1' : ∀ W, Calls Tryz.prog 74 #[.string q] W fun e w' => e = .returned (.tuple #[.int .u64 n1, .bool b1]) ∧ Drawn0 W w') (n2 : Int) (b2 : Bool) (HN2' : ∀ W, Calls Tryz.prog 74 #[.string r] W fun e w' => e = .returned (.tuple #[.int .u64 n2, .bool b2]) ∧ Drawn0 W w') (w : World) :
  Calls Tryz.prog 34 #[.string s] w (RdEnd (b0 && b1 && b2) n0 n1 n2 3 mt pp w) := by
 have HPP := Lib.hid hpp
 clear hpp
 have HC1 := Lib.hid HC1'
 clear HC1'
 have HI1 := Lib.hid HI1'
 clear HI1'
 have HC2 := Lib.hid HC2'
 clear HC2'
 have HI2 := Lib.hid HI2'
 clear HI2'
 have HS := Lib.hid HS'
 clear HS'
 have HN0 := Lib.hid HN0'
 clear HN0'
 have HN1 := Lib.hid HN1'
 clear HN1'
 have HN2 := Lib.hid HN2'
 clear HN2'
 have HM := Aside0.mk (Blks.start w)
 go_enter Tryz.func34, Tryz.ntmps34
 go_upto_region 1 with ((refine m_alloc n_own (h := ?_); intro br _ HN; clear HM; have HM := HN; clear HN))
 go_upto_region 2 with ((refine m_alloc n_own (h := ?_); intro bo _ HN; clear HM; have HM := HN; clear HN))
 go_simp
 go_cut [23] from 17 to 23 (fun v23 wx => v23 = .bool (begins s.data.toList 118) ∧ Aside0 (Blks w wx [(bo, zSem.toList, 50), (br, zSem.toList, 50)]))
 case first =>
  rcases Nat.eq_zero_or_pos s.size with h0 | h0
  ·have hem := isEmpty_true h0
   have hbg := begins_nil (c := 118) h0
   go_wp2_with fail
   go_meet
   case rel => exact ⟨by rw [hbg], ⟨n_own⟩⟩
  ·have hem := isEmpty_false h0
   have hbg := begins_at (c := 118) h0
   rw [← cast_beq] at hbg
   have HBG := Lib.hid hbg
   clear hbg
   go_wp2_with fail
   go_meet
   case rel => exact ⟨by rw [HBG.out]; rfl, ⟨n_own⟩⟩
 case rest =>
  clear HM
  obtain ⟨rfl, HM⟩ := hcut
  go_upto_if 23 with fail
  go_cut [0] from 23 to 25 (fun v0 wx => v0 = .string s1 ∧ Aside0 (Blks w wx [(bo, zSem.toList, 50), (br, zSem.toList, 50)]))
  case first =>
   cases hq : begins s.data.toList 118 with
   | false =>
    obtain rfl := hs1 s (bare0_of_not hq)
    go_wp2_with fail
    go_meet
    case rel => exact ⟨rfl, ⟨n_own⟩⟩
   | true =>
    have h0 := begins_pos hq
    obtain rfl := hs1 _ (bare0_v h0 (begins_one hq h0))
    go_wp2_with fail
    go_meet
    case rel => exact ⟨rfl, ⟨n_own⟩⟩
  case rest =>
  clear HM
  obtain ⟨rfl, HM⟩ := hcut
  go_upto_region 6 with (first | (go_at_call 71; ((with_reducible refine (HC1.out _).mono ?_); rintro e wc ⟨rfl, ⟨nq, rfl⟩⟩; replace HM := n_drew nq)) | (go_at_call 72; ((with_reducible refine (HI1.out _).mono ?_); rintro e wi ⟨⟨A, n, c, rfl⟩, hb⟩; replace HM := n_call hb; clear hb)))
  go_cut [41] from 6 to 41 (fun v41 wx => v41 = .bool false ∧ Aside0 (Blks w wx [(bo, zSem.toList, 50), (br, zSem.toList, 50)]))
  case first =>
   cases has1
   ·go_wp2_with fail
    go_meet
    case rel => exact ⟨rfl, ⟨n_own⟩⟩
   ·cases ok1
    ·exact absurd hg1 (by decide)
    ·go_wp2_with fail
     go_meet
     case rel => exact ⟨rfl, ⟨n_own⟩⟩
  case rest =>
  clear HM
  obtain ⟨rfl, HM⟩ := hcut
  go_upto_if 51 with (first | (refine m_store1 n_own (hy := (by first | exact (rfl : _ = Value.bool _) | exact (rfl : _ = Value.int _ _) | exact (rfl : _ = Value.string _) | exact (rfl : _ = Value.slice _ _ _) | exact (rfl : _ = Value.iface _ _) | exact (rfl : _ = Value.nilIface) | exact (rfl : _ = Value.pointer _))) (h := ?_); intro _ HN; clear HM; have HM := HN; clear HN) | (go_at_call 71; ((with_reducible refine (HC2.out _).mono ?_); rintro e wc ⟨rfl, ⟨nq, rfl⟩⟩; replace HM := n_drew nq)))
  go_cut [9] from 6 to 61 (fun v9 wx => v9 = .string pre ∧ ∃ P X, PreOk pp P X ∧ Aside0 (Blks w wx ((bo, [.int .u64 0, .int .u64 0, .int .u64 0, .int .i64 0, P, .string mt], 50) :: (br, zSem.toList, 50) :: X)))
  case first =>
   cases has2
   ·go_wp2_with fail
    go_meet
    case rel => exact ⟨rfl, _, _, Or.inl ⟨rfl, HPP.out (by trivial), rfl⟩, ⟨n_own⟩⟩
   ·cases ok2
    ·exact absurd hg2 (by decide)
    ·go_wp2_with (first | (refine m_store1 n_own (hy := (by first | exact (rfl : _ = Value.bool _) | exact (rfl : _ = Value.int _ _) | exact (rfl : _ = Value.string _) | exact (rfl : _ = Value.slice _ _ _) | exact (rfl : _ = Value.iface _ _) | exact (rfl : _ = Value.nilIface) | exact (rfl : _ = Value.pointer _))) (h := ?_); intro _ HN; clear HM; have HM := HN; clear HN) | (go_at_call 72; ((with_reducible refine (HI2.out _).mono ?_); rintro e wi ⟨gp, capp, cellsp, restp, rfl, hg, hc, hl, hb⟩; have HN := Aside0.mk (Blks.add n_own hb hg hc hl); clear HM hb hg hc hl; have HM := HN; clear HN)))
     go_meet
     case rel => exact ⟨rfl, _, _, Or.inr ⟨_, _, _, rfl, rfl⟩, ⟨(Blks.turn3 n_own)⟩⟩
  case rest =>
  clear HM
  obtain ⟨rfl, P, X, HP, HM⟩ := hcut
  go_wp2_with (go_at_call 73; ((with_reducible refine (HS.out _).mono ?_); rintro e ws ⟨gs, caps, cellss, rests, rfl, hg, hc, hl, hb⟩; simp only [List.map, List.cons_append, List.nil_append] at hl; have HN := Aside0.mk (Blks.add n_own hb hg hc hl); clear HM hb hg hc hl; have HM := HN; clear HN))
  refine wp_loop_rounds 4 ?_
  rw [rounds_succ]
  go_upto_if 81 with (first | refine n_ld1 ?_ | (go_at_call 74; ((with_reducible refine (HN0.out _).mono ?_); rintro e wn ⟨rfl, ⟨nq, rfl⟩⟩; replace HM := n_drew nq)))
  cases b0
  ·go_wp2_with (first | (refine m_build (by kernel_rfl) (h := ?_)) | (refine m_store n_own (h := ?_); intro _ HN; clear HM; have HM := HN; clear HN))
   (try simp only [Exit.inBlock, Exit.then])
   have k0 := n_cell (b := br) (o := 0); have k1 := n_cell (b := br) (o := 1); have k2 := n_cell (b := br) (o := 2); have k3 := n_cell (b := br) (o := 3); have k4 := n_cell (b := br) (o := 4); have k5 := n_cell (b := br) (o := 5); refine bodyPost_ret (v := .tuple #[.agg zSem, .bool false]) (by simp [results, Tryz.results34, go_sem, *]) rfl ⟨rfl, HM.out.bel⟩
  go_wp2_with (refine m_store1 n_own (hy := (by first | exact (rfl : _ = Value.bool _) | exact (rfl : _ = Value.int _ _) | exact (rfl : _ = Value.string _) | exact (rfl : _ = Value.slice _ _ _) | exact (rfl : _ = Value.iface _ _) | exact (rfl : _ = Value.nilIface) | exact (rfl : _ = Value.pointer _))) (h := ?_); intro _ HN; clear HM; have HM := HN; clear HN)
  rw [rounds_succ]
  go_upto_if 81 with (first | refine n_ld1 ?_ | (go_at_call 74; ((with_reducible refine (HN1.out _).mono ?_); rintro e wn ⟨rfl, ⟨nq, rfl⟩⟩; replace HM := n_drew nq)))
  cases b1
  ·go_wp2_with (first | (refine m_build (by kernel_rfl) (h := ?_)) | (refine m_store n_own (h := ?_); intro _ HN; clear HM; have HM := HN; clear HN))
   (try simp only [Exit.inBlock, Exit.then])
   have k0 := n_cell (b := br) (o := 0); have k1 := n_cell (b := br) (o := 1); have k2 := n_cell (b := br) (o := 2); have k3 := n_cell (b := br) (o := 3); have k4 := n_cell (b := br) (o := 4); have k5 := n_cell (b := br) (o := 5); refine bodyPost_ret (v := .tuple #[.agg zSem, .bool false]) (by simp [results, Tryz.results34, go_sem, *]) rfl ⟨rfl, HM.out.bel⟩
  go_wp2_with (refine m_store1 n_own (hy := (by first | exact (rfl : _ = Value.bool _) | exact (rfl : _ = Value.int _ _) | exact (rfl : _ = Value.string _) | exact (rfl : _ = Value.slice _ _ _) | exact (rfl : _ = Value.iface _ _) | exact (rfl : _ = Value.nilIface) | exact (rfl : _ = Value.pointer _))) (h := ?_); intro _ HN; clear HM; have HM := HN; clear HN)
  rw [rounds_succ]
  go_upto_if 81 with (first | refine n_ld1 ?_ | (go_at_call 74; ((with_reducible refine (HN2.out _).mono ?_); rintro e wn ⟨rfl, ⟨nq, rfl⟩⟩; replace HM := n_drew nq)))
  cases b2
  ·go_wp2_with (first | (refine m_build (by kernel_rfl) (h := ?_)) | (refine m_store n_own (h := ?_); intro _ HN; clear HM; have HM := HN; clear HN))
   (try simp only [Exit.inBlock, Exit.then])
   have k0 := n_cell (b := br) (o := 0); have k1 := n_cell (b := br) (o := 1); have k2 := n_cell (b := br) (o := 2); have k3 := n_cell (b := br) (o := 3); have k4 := n_cell (b := br) (o := 4); have k5 := n_cell (b := br) (o := 5); refine bodyPost_ret (v := .tuple #[.agg zSem, .bool false]) (by simp [results, Tryz.results34, go_sem, *]) rfl ⟨rfl, HM.out.bel⟩
  go_wp2_with (refine m_store1 n_own (hy := (by first | exact (rfl : _ = Value.bool _) | exact (rfl : _ = Value.int _ _) | exact (rfl : _ = Value.string _) | exact (rfl : _ = Value.slice _ _ _) | exact (rfl : _ = Value.iface _ _) | exact (rfl : _ = Value.nilIface) | exact (rfl : _ = Value.pointer _))) (h := ?_); intro _ HN; clear HM; have HM := HN; clear HN)
  rw [rounds_succ]
  have HO := Lib.hid HP.one
  go_wp2_with (first | (refine m_store1 n_own (hy := (by first | exact (rfl : _ = Value.bool _) | exact (rfl : _ = Value.int _ _) | exact (rfl : _ = Value.string _) | exact (rfl : _ = Value.slice _ _ _) | exact (rfl : _ = Value.iface _ _) | exact (rfl : _ = Value.nilIface) | exact (rfl : _ = Value.pointer _))) (h := ?_); intro _ HN; clear HM; have HM := HN; clear HN) | refine n_ld ?_ | (refine m_store n_own (h1 := semOne HO.out) (h := ?_); intro _ HN; clear HM; have HM := HN; clear HN))
  have k0 := n_cell (b := br) (o := 0); have k1 := n_cell (b := br) (o := 1); have k2 := n_cell (b := br) (o := 2); have k3 := n_cell (b := br) (o := 3); have k4 := n_cell (b := br) (o := 4); have k5 := n_cell (b := br) (o := 5); refine bodyPost_ret (v := .tuple #[.agg #[.int .u64 n0, .int .u64 n1, .int .u64 n2, .int .i64 3, P, .string mt], .bool true]) (by simp [results, Tryz.results34, go_sem, *]) rfl ⟨⟨P, rfl, HP.strs (Y := [_, _, _]) HM.out⟩, HM.out.bel⟩
end Go.Proofs.YtgoeiflddikihaaGreatDoor.Ver
end
