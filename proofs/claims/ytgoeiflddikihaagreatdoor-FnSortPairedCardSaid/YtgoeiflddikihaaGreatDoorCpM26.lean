/- Merged by program out of: AwakeC, AwakeD. -/
import Derived.Test.YtgoeiflddikihaaGreatDoorCpM24
import Derived.Test.YtgoeiflddikihaaGreatDoorCpM22
import Derived.Test.YtgoeiflddikihaaGreatDoorCpM5
import Derived.Test.YtgoeiflddikihaaGreatDoorCpM9
import Derived.Test.YtgoeiflddikihaaGreatDoorCpM19
import Derived.Lib.QuietBelow
import Derived.BigQuiet
section
namespace Go.Proofs.YtgoeiflddikihaaGreatDoor.Ver
set_option linter.unusedSimpArgs false
open Go.RowKit Go.Proofs.YtgoeiflddikihaaGreatDoor.Dig Go.Proofs.YtgoeiflddikihaaGreatDoorW.PrintWords Go.Proofs.YtgoeiflddikihaaGreatDoor.Mem
theorem rowR : RowT Tryz.prog 238 1 := ⟨⟨_, Tryz.underlying238, rfl⟩, by kernel_rfl⟩
theorem oneS : OneT Tryz.prog 9 := ⟨⟨_, Tryz.underlying9, rfl⟩, by kernel_rfl⟩
theorem oneSl : OneT Tryz.prog 236 := ⟨⟨_, Tryz.underlying236, rfl⟩, by kernel_rfl⟩
theorem zeroR : (Tryz.prog.info? 238).bind (fun i => i.zero.map (·.cells)) = some #[.slice none 0 0] := by kernel_rfl
abbrev bars : ByteArray := ⟨#[124, 124]⟩
abbrev comma : ByteArray := ⟨#[44]⟩
abbrev v2 : SV := ⟨2, 0, 0, ⟨#[]⟩, ⟨#[]⟩, ⟨#[]⟩⟩
def P120 : List Value := (pcs v120 v2 true true true false).toList
def SplitEnd (s : ByteArray) (w : World) (e : Ending) (w' : World) : Prop :=
  ∃ g cap cells rest, e = .returned (.slice (some ⟨g, 0, none⟩) 1 cap) ∧ w.heap.size ≤ g ∧ w'.heap[g]? = some (.cells cells 9 (0, 0)) ∧ cells.toList = .string s :: rest ∧ Below w.heap.size w w'
theorem split1 {s t : ByteArray} (h : PFnIntersectAny.semver_split.f 20 s t = some [s]) (w : World) : Calls Tryz.prog 140 #[.string s, .string t] w (SplitEnd s w) := by
  refine (PFnIntersectAny.semver_split.calls 20 s t [s] w h).mono ?_
  rintro e w' ⟨v, rfl, hr, hb⟩
  obtain ⟨g, cap, cells, rest, rfl, hg, hc, hl⟩ := strs_block hr (Nat.zero_lt_one)
  exact ⟨g, cap, cells, rest, rfl, hg, hc, hl, hb⟩
theorem trimc (w : World) : Calls Tryz.prog 142 #[.string tc120] w fun e w' => e = .returned (.string tc120) ∧ Drawn0 w w' :=
  PFnIntersectAny.semver_trim.calls 10 tc120 tc120 w (by kernel_rfl)
def RangeEnd (w : World) (e : Ending) (w' : World) : Prop :=
  ∃ g cap cells rest, e = .returned (.tuple #[.iface 238 (.agg #[.slice (some ⟨g, 0, none⟩) 1 cap]), .nilIface]) ∧ w.heap.size ≤ g ∧ w'.heap[g]? = some (.cells cells 242 (0, 0)) ∧ cells.toList = P120 ++ rest ∧ RowF 1 cap 17 P120 rest ∧ Below w.heap.size w w'
theorem read1_120' (w : World) (hv : Vars w) : Calls Tryz.prog 141 #[.string tc120, .bool false] w (RangeEnd w) := by
  refine (read1_120 w hv).mono ?_
  rintro e w' ⟨r, rfl, ho, hb⟩
  obtain ⟨g, cap, cells, rest, rfl, hg, hc, hl, hf⟩ := row_block ho (by omega)
  exact ⟨g, cap, cells, rest, rfl, hg, hc, hl, hf, hb⟩
def RangeEnd1 (w : World) (e : Ending) (w' : World) : Prop :=
  ∃ g cap cells rest, e = .returned (.iface 238 (.agg #[.slice (some ⟨g, 0, none⟩) 1 cap])) ∧ w.heap.size ≤ g ∧ w'.heap[g]? = some (.cells cells 242 (0, 0)) ∧ cells.toList = P120 ++ rest ∧ RowF 1 cap 17 P120 rest ∧ Below w.heap.size w w'
theorem isect120 (base : Nat) (r1 r2 : Value) (w : World) (ho1 : w.ownsRow base 242 17 r1 1 zP.toList) (ho2 : w.ownsRow base 242 17 r2 1 P120) :
    Calls Tryz.prog 295 #[.agg #[r1], .iface 238 (.agg #[r2])] w (RangeEnd1 w) := by
  have hp := pcell_pcs v120 v2 true true true false
  refine (isect_one zP (pcs v120 v2 true true true false) (pcs v120 v2 true true true false) pcell_z hp hp base r1 r2 w ho1 ho2 (both_zero v120 v2 true false) (empty_in v120 v2 (by decide) (by decide) (by kernel_rfl) true false)).mono ?_
  rintro e w' ⟨r, rfl, ho, hb⟩
  obtain ⟨g, cap, cells, rest, rfl, hg, hc, hl, hf⟩ := row_block ho (by omega)
  exact ⟨g, cap, cells, rest, rfl, hg, hc, hl, hf, hb⟩
set_option maxRecDepth 20000 in
set_option maxHeartbeats 4000000 in
theorem con120 (w : World) (hv : Vars w) : Calls Tryz.prog 127 #[.string tc120, .bool false] w (RangeEnd w) := by
  have HP := Lib.hid (fun W hb => read1_120' W (Vars.below (w := w) hv hb))
  have HM := Aside0.mk (Blks.start w)
  have HS1 := Lib.hid (split1 (s := tc120) (t := bars) (by kernel_rfl))
  have HS2 := Lib.hid (split1 (s := tc120) (t := comma) (by kernel_rfl))
  have f1 := c_range_sv
  have f2 := c_range_range
  have f3 := m_range_Intersect
  obtain ⟨iv, hvi, hvz0, hvz1, hvz2⟩ := info_parts infoP
  clear hv
  go_enter Tryz.func127, Tryz.ntmps127
  go_wp2_with (first
    | (go_at_call 140; ((with_reducible refine (HS1.out _).mono ?_); rintro e w1 ⟨g1, cap1, cells1, rest1, rfl, hg, hc, hl, hb⟩; have HN := Aside0.mk (Blks.add (by repeat (first | exact HM.out | apply Blks.drewN | apply Blks.drew | apply Blks.other)) hb hg hc hl); clear HM hb hg hc hl; have HM := HN; clear HN))
    | (refine bk_load1 (by rfl) (by rfl) (by rfl) (by repeat (first | exact HM.out | apply Blks.drewN | apply Blks.drew | apply Blks.other)) (by repeat (first | exact List.Mem.head _ | apply List.Mem.tail)) (by first | exact oneS | exact oneSl | exact oneB) (by repeat (first | exact Rd.nil | apply Rd.here | apply Rd.skip)) ?_) | (refine bk_load (by rfl) (by rfl) (by rfl) (by repeat (first | exact HM.out | apply Blks.drewN | apply Blks.drew | apply Blks.other)) (by repeat (first | exact List.Mem.head _ | apply List.Mem.tail)) (by first | exact rowV | exact rowP | exact rowR) (by repeat (first | exact Rd.nil | apply Rd.here | apply Rd.skip)) ?_) | (refine bk_alloc (by rfl) (by rfl) (by repeat (first | exact HM.out | apply Blks.drewN | apply Blks.drew | apply Blks.other)) (by first | exact zeroR | exact zeroV | exact zeroP) ?_; intro _ _ HN; clear HM; have HM := Aside0.mk HN; clear HN) | (refine bk_store1 (by rfl) (by rfl) (by rfl) (by rfl) (by first | exact (rfl : _ = Value.bool _) | exact (rfl : _ = Value.int _ _) | exact (rfl : _ = Value.string _) | exact (rfl : _ = Value.slice _ _ _) | exact (rfl : _ = Value.iface _ _) | exact (rfl : _ = Value.nilIface) | exact (rfl : _ = Value.pointer _)) (by repeat (first | exact HM.out | apply Blks.drewN | apply Blks.drew | apply Blks.other)) (by first | exact oneSl | exact oneB) (by rfl) (by repeat (first | exact List.Mem.head _ | apply List.Mem.tail)) (by repeat (first | exact Wr.nil | apply Wr.here | apply Wr.skip)) (by repeat (first | exact Up.here | apply Up.skip)) ?_; intro _ HN; clear HM; have HM := Aside0.mk HN; clear HN) | (refine bk_store (by rfl) (by rfl) (by rfl) (by rfl) (by rfl) (by repeat (first | exact HM.out | apply Blks.drewN | apply Blks.drew | apply Blks.other)) (by first | exact rowR | exact rowV | exact rowP) (by rfl) (by simp [Value.oneCell']) (by repeat (first | exact List.Mem.head _ | apply List.Mem.tail)) (by repeat (first | exact Wr.nil | apply Wr.here | apply Wr.skip)) (by repeat (first | exact Up.here | apply Up.skip)) ?_; intro _ HN; clear HM; have HM := Aside0.mk HN; clear HN) | (refine bk_slice (by rfl) (by rfl) (by repeat (first | exact HM.out | apply Blks.drewN | apply Blks.drew | apply Blks.other)) Tryz.underlying236 (by rw [Array.toList_map]; exact bs_one _ rfl) ?_; intro _ _ HN; clear HM; have HM := Aside0.mk HN; clear HN))
  refine wp_loop_rounds 2 ?_
  rw [rounds_succ]
  go_wp2_with (first
    | (go_at_call 140; ((with_reducible refine (HS2.out _).mono ?_); rintro e w2 ⟨g2, cap2, cells2, rest2, rfl, hg, hc, hl, hb⟩; have HN := Aside0.mk (Blks.add (by repeat (first | exact HM.out | apply Blks.drewN | apply Blks.drew | apply Blks.other)) hb hg hc hl); clear HM hb hg hc hl; have HM := HN; clear HN))
    | (refine bk_load1 (by rfl) (by rfl) (by rfl) (by repeat (first | exact HM.out | apply Blks.drewN | apply Blks.drew | apply Blks.other)) (by repeat (first | exact List.Mem.head _ | apply List.Mem.tail)) (by first | exact oneS | exact oneSl | exact oneB) (by repeat (first | exact Rd.nil | apply Rd.here | apply Rd.skip)) ?_) | (refine bk_load (by rfl) (by rfl) (by rfl) (by repeat (first | exact HM.out | apply Blks.drewN | apply Blks.drew | apply Blks.other)) (by repeat (first | exact List.Mem.head _ | apply List.Mem.tail)) (by first | exact rowV | exact rowP | exact rowR) (by repeat (first | exact Rd.nil | apply Rd.here | apply Rd.skip)) ?_) | (refine bk_alloc (by rfl) (by rfl) (by repeat (first | exact HM.out | apply Blks.drewN | apply Blks.drew | apply Blks.other)) (by first | exact zeroR | exact zeroV | exact zeroP) ?_; intro _ _ HN; clear HM; have HM := Aside0.mk HN; clear HN) | (refine bk_store1 (by rfl) (by rfl) (by rfl) (by rfl) (by first | exact (rfl : _ = Value.bool _) | exact (rfl : _ = Value.int _ _) | exact (rfl : _ = Value.string _) | exact (rfl : _ = Value.slice _ _ _) | exact (rfl : _ = Value.iface _ _) | exact (rfl : _ = Value.nilIface) | exact (rfl : _ = Value.pointer _)) (by repeat (first | exact HM.out | apply Blks.drewN | apply Blks.drew | apply Blks.other)) (by first | exact oneSl | exact oneB) (by rfl) (by repeat (first | exact List.Mem.head _ | apply List.Mem.tail)) (by repeat (first | exact Wr.nil | apply Wr.here | apply Wr.skip)) (by repeat (first | exact Up.here | apply Up.skip)) ?_; intro _ HN; clear HM; have HM := Aside0.mk HN; clear HN) | (refine bk_store (by rfl) (by rfl) (by rfl) (by rfl) (by rfl) (by repeat (first | exact HM.out | apply Blks.drewN | apply Blks.drew | apply Blks.other)) (by first | exact rowR | exact rowV | exact rowP) (by rfl) (by simp [Value.oneCell']) (by repeat (first | exact List.Mem.head _ | apply List.Mem.tail)) (by repeat (first | exact Wr.nil | apply Wr.here | apply Wr.skip)) (by repeat (first | exact Up.here | apply Up.skip)) ?_; intro _ HN; clear HM; have HM := Aside0.mk HN; clear HN) | (refine bk_slice (by rfl) (by rfl) (by repeat (first | exact HM.out | apply Blks.drewN | apply Blks.drew | apply Blks.other)) Tryz.underlying236 (by rw [Array.toList_map]; exact bs_one _ rfl) ?_; intro _ _ HN; clear HM; have HM := Aside0.mk HN; clear HN))
  refine wp_loop_rounds 2 ?_
  rw [rounds_succ]
  go_wp2_with (first
    | (go_at_call 142; ((with_reducible refine (trimc _).mono ?_); rintro e w4 ⟨rfl, ⟨n4, rfl⟩⟩))
    | (go_at_call 141; ((with_reducible refine (HP.out _ (Blks.bel (by repeat (first | exact HM.out | apply Blks.drewN | apply Blks.drew | apply Blks.other)))).mono ?_); rintro e w5 ⟨g5, cap5, cells5, rest5, rfl, hg, hc, hl, hf, hb⟩; have HN := Aside0.mk (Blks.add (by repeat (first | exact HM.out | apply Blks.drewN | apply Blks.drew | apply Blks.other)) hb hg hc hl); clear HM hb hg hc hl; have HM := HN; clear HN; have HF5 := Lib.hid hf; clear hf))
    | (go_at_call 295; (refine (isect120 w.heap.size _ _ _ (Blks.row (by repeat (first | exact HM.out | apply Blks.drewN | apply Blks.drew | apply Blks.other)) (by repeat (first | exact List.Mem.head _ | apply List.Mem.tail)) rfl (by unfold maxLen; omega)) (Blks.rowOf (by repeat (first | exact HM.out | apply Blks.drewN | apply Blks.drew | apply Blks.other)) (by repeat (first | exact List.Mem.head _ | apply List.Mem.tail)) HF5.out)).mono ?_); rintro e w6 ⟨g6, cap6, cells6, rest6, rfl, hg, hc, hl, hf, hb⟩; have HN := Aside0.mk (Blks.add (by repeat (first | exact HM.out | apply Blks.drewN | apply Blks.drew | apply Blks.other)) hb hg hc hl); clear HM hb hg hc hl; have HM := HN; clear HN; have HF6 := Lib.hid hf; clear hf)
    | (refine bk_load1 (by rfl) (by rfl) (by rfl) (by repeat (first | exact HM.out | apply Blks.drewN | apply Blks.drew | apply Blks.other)) (by repeat (first | exact List.Mem.head _ | apply List.Mem.tail)) (by first | exact oneS | exact oneSl | exact oneB) (by repeat (first | exact Rd.nil | apply Rd.here | apply Rd.skip)) ?_) | (refine bk_load (by rfl) (by rfl) (by rfl) (by repeat (first | exact HM.out | apply Blks.drewN | apply Blks.drew | apply Blks.other)) (by repeat (first | exact List.Mem.head _ | apply List.Mem.tail)) (by first | exact rowV | exact rowP | exact rowR) (by repeat (first | exact Rd.nil | apply Rd.here | apply Rd.skip)) ?_) | (refine bk_alloc (by rfl) (by rfl) (by repeat (first | exact HM.out | apply Blks.drewN | apply Blks.drew | apply Blks.other)) (by first | exact zeroR | exact zeroV | exact zeroP) ?_; intro _ _ HN; clear HM; have HM := Aside0.mk HN; clear HN) | (refine bk_store1 (by rfl) (by rfl) (by rfl) (by rfl) (by first | exact (rfl : _ = Value.bool _) | exact (rfl : _ = Value.int _ _) | exact (rfl : _ = Value.string _) | exact (rfl : _ = Value.slice _ _ _) | exact (rfl : _ = Value.iface _ _) | exact (rfl : _ = Value.nilIface) | exact (rfl : _ = Value.pointer _)) (by repeat (first | exact HM.out | apply Blks.drewN | apply Blks.drew | apply Blks.other)) (by first | exact oneSl | exact oneB) (by rfl) (by repeat (first | exact List.Mem.head _ | apply List.Mem.tail)) (by repeat (first | exact Wr.nil | apply Wr.here | apply Wr.skip)) (by repeat (first | exact Up.here | apply Up.skip)) ?_; intro _ HN; clear HM; have HM := Aside0.mk HN; clear HN) | (refine bk_store (by rfl) (by rfl) (by rfl) (by rfl) (by rfl) (by repeat (first | exact HM.out | apply Blks.drewN | apply Blks.drew | apply Blks.other)) (by first | exact rowR | exact rowV | exact rowP) (by rfl) (by simp [Value.oneCell']) (by repeat (first | exact List.Mem.head _ | apply List.Mem.tail)) (by repeat (first | exact Wr.nil | apply Wr.here | apply Wr.skip)) (by repeat (first | exact Up.here | apply Up.skip)) ?_; intro _ HN; clear HM; have HM := Aside0.mk HN; clear HN) | (refine bk_slice (by rfl) (by rfl) (by repeat (first | exact HM.out | apply Blks.drewN | apply Blks.drew | apply Blks.other)) Tryz.underlying236 (by rw [Array.toList_map]; exact bs_one _ rfl) ?_; intro _ _ HN; clear HM; have HM := Aside0.mk HN; clear HN))
  rw [rounds_succ]
  go_wp2_with (first
    | (at_builtin; (refine wpList_append_own _ (by rfl) _ _ 236 (by rfl) w.heap.size 242 iv (.agg zP) 17 176 Tryz.underlying236 hvi hvz0 hvz1 hvz2 rfl (by decide) _ 0 _ (by rfl) (World.ownsRow_nil _ _ _ _) ⟨g6, 0, none⟩ 1 cap6 P120 (by rfl) ?c0 ?c1 ?c2 ?c3 ?c4 ?c5 ?_))
    | (refine bk_load1 (by rfl) (by rfl) (by rfl) (by repeat (first | exact HM.out | apply Blks.drewN | apply Blks.drew | apply Blks.other)) (by repeat (first | exact List.Mem.head _ | apply List.Mem.tail)) (by first | exact oneS | exact oneSl | exact oneB) (by repeat (first | exact Rd.nil | apply Rd.here | apply Rd.skip)) ?_) | (refine bk_load (by rfl) (by rfl) (by rfl) (by repeat (first | exact HM.out | apply Blks.drewN | apply Blks.drew | apply Blks.other)) (by repeat (first | exact List.Mem.head _ | apply List.Mem.tail)) (by first | exact rowV | exact rowP | exact rowR) (by repeat (first | exact Rd.nil | apply Rd.here | apply Rd.skip)) ?_) | (refine bk_alloc (by rfl) (by rfl) (by repeat (first | exact HM.out | apply Blks.drewN | apply Blks.drew | apply Blks.other)) (by first | exact zeroR | exact zeroV | exact zeroP) ?_; intro _ _ HN; clear HM; have HM := Aside0.mk HN; clear HN) | (refine bk_store1 (by rfl) (by rfl) (by rfl) (by rfl) (by first | exact (rfl : _ = Value.bool _) | exact (rfl : _ = Value.int _ _) | exact (rfl : _ = Value.string _) | exact (rfl : _ = Value.slice _ _ _) | exact (rfl : _ = Value.iface _ _) | exact (rfl : _ = Value.nilIface) | exact (rfl : _ = Value.pointer _)) (by repeat (first | exact HM.out | apply Blks.drewN | apply Blks.drew | apply Blks.other)) (by first | exact oneSl | exact oneB) (by rfl) (by repeat (first | exact List.Mem.head _ | apply List.Mem.tail)) (by repeat (first | exact Wr.nil | apply Wr.here | apply Wr.skip)) (by repeat (first | exact Up.here | apply Up.skip)) ?_; intro _ HN; clear HM; have HM := Aside0.mk HN; clear HN) | (refine bk_store (by rfl) (by rfl) (by rfl) (by rfl) (by rfl) (by repeat (first | exact HM.out | apply Blks.drewN | apply Blks.drew | apply Blks.other)) (by first | exact rowR | exact rowV | exact rowP) (by rfl) (by simp [Value.oneCell']) (by repeat (first | exact List.Mem.head _ | apply List.Mem.tail)) (by repeat (first | exact Wr.nil | apply Wr.here | apply Wr.skip)) (by repeat (first | exact Up.here | apply Up.skip)) ?_; intro _ HN; clear HM; have HM := Aside0.mk HN; clear HN) | (refine bk_slice (by rfl) (by rfl) (by repeat (first | exact HM.out | apply Blks.drewN | apply Blks.drew | apply Blks.other)) Tryz.underlying236 (by rw [Array.toList_map]; exact bs_one _ rfl) ?_; intro _ _ HN; clear HM; have HM := Aside0.mk HN; clear HN))
  case c0 => rfl
  case c1 => exact Blks.addr HM.out (by repeat (first | exact List.Mem.head _ | apply List.Mem.tail))
  case c2 => exact fun u hu => (Array.all_eq_true_iff_forall_mem.1 (pcell_pcs v120 v2 true true true false).one) u (by simpa [P120] using hu)
  case c3 => unfold maxLen; omega
  case c4 => omega
  case c5 => exact HM.out.bel.size
  intro v9 w9 ho9 hg9 _
  obtain ⟨g9, cap9, rfl, _, _⟩ := ho9.form (by omega)
  have HN := Aside0.mk (Blks.call HM.out (pw_below_grown (Below.refl _ _) _ (Nat.le_refl _) hg9 (fun kk hk => by simp [Value.ownBlock] at hk)))
  clear HM ho9 hg9
  have HM := HN
  clear HN
  go_wp2_with (first | (refine bk_load1 (by rfl) (by rfl) (by rfl) (by repeat (first | exact HM.out | apply Blks.drewN | apply Blks.drew | apply Blks.other)) (by repeat (first | exact List.Mem.head _ | apply List.Mem.tail)) (by first | exact oneS | exact oneSl | exact oneB) (by repeat (first | exact Rd.nil | apply Rd.here | apply Rd.skip)) ?_) | (refine bk_load (by rfl) (by rfl) (by rfl) (by repeat (first | exact HM.out | apply Blks.drewN | apply Blks.drew | apply Blks.other)) (by repeat (first | exact List.Mem.head _ | apply List.Mem.tail)) (by first | exact rowV | exact rowP | exact rowR) (by repeat (first | exact Rd.nil | apply Rd.here | apply Rd.skip)) ?_) | (refine bk_alloc (by rfl) (by rfl) (by repeat (first | exact HM.out | apply Blks.drewN | apply Blks.drew | apply Blks.other)) (by first | exact zeroR | exact zeroV | exact zeroP) ?_; intro _ _ HN; clear HM; have HM := Aside0.mk HN; clear HN) | (refine bk_store1 (by rfl) (by rfl) (by rfl) (by rfl) (by first | exact (rfl : _ = Value.bool _) | exact (rfl : _ = Value.int _ _) | exact (rfl : _ = Value.string _) | exact (rfl : _ = Value.slice _ _ _) | exact (rfl : _ = Value.iface _ _) | exact (rfl : _ = Value.nilIface) | exact (rfl : _ = Value.pointer _)) (by repeat (first | exact HM.out | apply Blks.drewN | apply Blks.drew | apply Blks.other)) (by first | exact oneSl | exact oneB) (by rfl) (by repeat (first | exact List.Mem.head _ | apply List.Mem.tail)) (by repeat (first | exact Wr.nil | apply Wr.here | apply Wr.skip)) (by repeat (first | exact Up.here | apply Up.skip)) ?_; intro _ HN; clear HM; have HM := Aside0.mk HN; clear HN) | (refine bk_store (by rfl) (by rfl) (by rfl) (by rfl) (by rfl) (by repeat (first | exact HM.out | apply Blks.drewN | apply Blks.drew | apply Blks.other)) (by first | exact rowR | exact rowV | exact rowP) (by rfl) (by simp [Value.oneCell']) (by repeat (first | exact List.Mem.head _ | apply List.Mem.tail)) (by repeat (first | exact Wr.nil | apply Wr.here | apply Wr.skip)) (by repeat (first | exact Up.here | apply Up.skip)) ?_; intro _ HN; clear HM; have HM := Aside0.mk HN; clear HN) | (refine bk_slice (by rfl) (by rfl) (by repeat (first | exact HM.out | apply Blks.drewN | apply Blks.drew | apply Blks.other)) Tryz.underlying236 (by rw [Array.toList_map]; exact bs_one _ rfl) ?_; intro _ _ HN; clear HM; have HM := Aside0.mk HN; clear HN))
  rw [rounds_succ]
  go_wp2_with (first | (refine bk_load1 (by rfl) (by rfl) (by rfl) (by repeat (first | exact HM.out | apply Blks.drewN | apply Blks.drew | apply Blks.other)) (by repeat (first | exact List.Mem.head _ | apply List.Mem.tail)) (by first | exact oneS | exact oneSl | exact oneB) (by repeat (first | exact Rd.nil | apply Rd.here | apply Rd.skip)) ?_) | (refine bk_load (by rfl) (by rfl) (by rfl) (by repeat (first | exact HM.out | apply Blks.drewN | apply Blks.drew | apply Blks.other)) (by repeat (first | exact List.Mem.head _ | apply List.Mem.tail)) (by first | exact rowV | exact rowP | exact rowR) (by repeat (first | exact Rd.nil | apply Rd.here | apply Rd.skip)) ?_) | (refine bk_alloc (by rfl) (by rfl) (by repeat (first | exact HM.out | apply Blks.drewN | apply Blks.drew | apply Blks.other)) (by first | exact zeroR | exact zeroV | exact zeroP) ?_; intro _ _ HN; clear HM; have HM := Aside0.mk HN; clear HN) | (refine bk_store1 (by rfl) (by rfl) (by rfl) (by rfl) (by first | exact (rfl : _ = Value.bool _) | exact (rfl : _ = Value.int _ _) | exact (rfl : _ = Value.string _) | exact (rfl : _ = Value.slice _ _ _) | exact (rfl : _ = Value.iface _ _) | exact (rfl : _ = Value.nilIface) | exact (rfl : _ = Value.pointer _)) (by repeat (first | exact HM.out | apply Blks.drewN | apply Blks.drew | apply Blks.other)) (by first | exact oneSl | exact oneB) (by rfl) (by repeat (first | exact List.Mem.head _ | apply List.Mem.tail)) (by repeat (first | exact Wr.nil | apply Wr.here | apply Wr.skip)) (by repeat (first | exact Up.here | apply Up.skip)) ?_; intro _ HN; clear HM; have HM := Aside0.mk HN; clear HN) | (refine bk_store (by rfl) (by rfl) (by rfl) (by rfl) (by rfl) (by repeat (first | exact HM.out | apply Blks.drewN | apply Blks.drew | apply Blks.other)) (by first | exact rowR | exact rowV | exact rowP) (by rfl) (by simp [Value.oneCell']) (by repeat (first | exact List.Mem.head _ | apply List.Mem.tail)) (by repeat (first | exact Wr.nil | apply Wr.here | apply Wr.skip)) (by repeat (first | exact Up.here | apply Up.skip)) ?_; intro _ HN; clear HM; have HM := Aside0.mk HN; clear HN) | (refine bk_slice (by rfl) (by rfl) (by repeat (first | exact HM.out | apply Blks.drewN | apply Blks.drew | apply Blks.other)) Tryz.underlying236 (by rw [Array.toList_map]; exact bs_one _ rfl) ?_; intro _ _ HN; clear HM; have HM := Aside0.mk HN; clear HN))
  go_ret2
  exact ⟨g6, cap6, _, rest6, rfl, HM.out.new (g6, P120 ++ rest6, 242) (by repeat (first | exact List.Mem.head _ | apply List.Mem.tail)), HM.out.has (g6, P120 ++ rest6, 242) (by repeat (first | exact List.Mem.head _ | apply List.Mem.tail)), rfl, HF6.out, HM.out.bel⟩
end Go.Proofs.YtgoeiflddikihaaGreatDoor.Ver
end
section
namespace Go.Proofs.YtgoeiflddikihaaGreatDoor.Ver
set_option linter.unusedSimpArgs false
open Go.Sort (grow)
open Go.RowKit Go.Proofs.YtgoeiflddikihaaGreatDoor.Dig Go.Proofs.YtgoeiflddikihaaGreatDoorW.PrintWords Go.Proofs.YtgoeiflddikihaaGreatDoor.Mem
theorem rowC : RowT Tryz.prog 29 6 := ⟨⟨_, Tryz.underlying29, rfl⟩, by kernel_rfl⟩
theorem rowIV : RowT Tryz.prog 27 3 := ⟨⟨_, Tryz.underlying27, rfl⟩, by kernel_rfl⟩
theorem oneI : OneT Tryz.prog 2 := ⟨⟨_, Tryz.underlying2, rfl⟩, by kernel_rfl⟩
theorem newc120 (w : World) (hv : Vars w) : Calls Tryz.prog 118 #[.string tc120] w (RangeEnd w) := by
  have HP := Lib.hid (fun W hb => con120 W (Vars.below (w := w) hv hb))
  have HM := Aside0.mk (Blks.start w)
  clear hv
  go_enter Tryz.func118, Tryz.ntmps118
  go_wp2_with (first
    | (go_at_call 127; ((with_reducible refine (HP.out _ (Blks.bel (by repeat (first | exact HM.out | apply Blks.drewN | apply Blks.drew | apply Blks.other)))).mono ?_); rintro e w5 ⟨g5, cap5, cells5, rest5, rfl, hg, hc, hl, hf, hb⟩; have HN := Aside0.mk (Blks.add (by repeat (first | exact HM.out | apply Blks.drewN | apply Blks.drew | apply Blks.other)) hb hg hc hl); clear HM hb hg hc hl; have HM := HN; clear HN; have HF5 := Lib.hid hf; clear hf)))
  go_ret2
  exact ⟨g5, cap5, _, rest5, rfl, HM.out.new (g5, P120 ++ rest5, 242) (by repeat (first | exact List.Mem.head _ | apply List.Mem.tail)), HM.out.has (g5, P120 ++ rest5, 242) (by repeat (first | exact List.Mem.head _ | apply List.Mem.tail)), rfl, HF5.out, HM.out.bel⟩
def ConEnd (v : Value) (w : World) (e : Ending) (w' : World) : Prop :=
  ∃ g cap cells rest, e = .returned (.tuple #[.iface 202 (.agg #[.iface 238 (.agg #[.slice (some ⟨g, 0, none⟩) 1 cap])]), v]) ∧ w.heap.size ≤ g ∧ w'.heap[g]? = some (.cells cells 242 (0, 0)) ∧ cells.toList = P120 ++ rest ∧ RowF 1 cap 17 P120 rest ∧ Below w.heap.size w w'
set_option maxRecDepth 20000 in
set_option maxHeartbeats 1000000 in
theorem nsc120 (w : World) (hv : Vars w) : Calls Tryz.prog 95 #[.string tc120] w (ConEnd .nilIface w) := by
  have HP := Lib.hid (fun W hb => newc120 W (Vars.below (w := w) hv hb))
  have HM := Aside0.mk (Blks.start w)
  have f1 := c_range_sv
  clear hv
  go_enter Tryz.func95, Tryz.ntmps95
  go_wp2_with (first
    | (go_at_call 118; ((with_reducible refine (HP.out _ (Blks.bel (by repeat (first | exact HM.out | apply Blks.drewN | apply Blks.drew | apply Blks.other)))).mono ?_); rintro e w5 ⟨g5, cap5, cells5, rest5, rfl, hg, hc, hl, hf, hb⟩; have HN := Aside0.mk (Blks.add (by repeat (first | exact HM.out | apply Blks.drewN | apply Blks.drew | apply Blks.other)) hb hg hc hl); clear HM hb hg hc hl; have HM := HN; clear HN; have HF5 := Lib.hid hf; clear hf))
    | (refine bk_load1 (by rfl) (by rfl) (by rfl) (by repeat (first | exact HM.out | apply Blks.drewN | apply Blks.drew | apply Blks.other)) (by repeat (first | exact List.Mem.head _ | apply List.Mem.tail)) (by first | exact oneS | exact oneSl | exact oneB | exact oneI) (by repeat (first | exact Rd.nil | apply Rd.here | apply Rd.skip)) ?_) | (refine bk_load (by rfl) (by rfl) (by rfl) (by repeat (first | exact HM.out | apply Blks.drewN | apply Blks.drew | apply Blks.other)) (by repeat (first | exact List.Mem.head _ | apply List.Mem.tail)) (by first | exact rowV | exact rowP | exact rowR | exact rowC | exact rowIV) (by repeat (first | exact Rd.nil | apply Rd.here | apply Rd.skip)) ?_) | (refine bk_alloc (by rfl) (by rfl) (by repeat (first | exact HM.out | apply Blks.drewN | apply Blks.drew | apply Blks.other)) (by first | exact zeroR | exact zeroV | exact zeroP) ?_; intro bq _ HN; clear HM; have HM := Aside0.mk HN; clear HN) | (refine bk_store1 (by rfl) (by rfl) (by rfl) (by rfl) (by first | exact (rfl : _ = Value.bool _) | exact (rfl : _ = Value.int _ _) | exact (rfl : _ = Value.string _) | exact (rfl : _ = Value.slice _ _ _) | exact (rfl : _ = Value.iface _ _) | exact (rfl : _ = Value.nilIface) | exact (rfl : _ = Value.pointer _)) (by repeat (first | exact HM.out | apply Blks.drewN | apply Blks.drew | apply Blks.other)) (by first | exact oneSl | exact oneB) (by rfl) (by repeat (first | exact List.Mem.head _ | apply List.Mem.tail)) (by repeat (first | exact Wr.nil | apply Wr.here | apply Wr.skip)) (by repeat (first | exact Up.here | apply Up.skip)) ?_; intro _ HN; clear HM; have HM := Aside0.mk HN; clear HN) | (refine bk_store (by rfl) (by rfl) (by rfl) (by rfl) (by rfl) (by repeat (first | exact HM.out | apply Blks.drewN | apply Blks.drew | apply Blks.other)) (by first | exact rowR | exact rowV | exact rowP) (by rfl) (by simp [Value.oneCell']) (by repeat (first | exact List.Mem.head _ | apply List.Mem.tail)) (by repeat (first | exact Wr.nil | apply Wr.here | apply Wr.skip)) (by repeat (first | exact Up.here | apply Up.skip)) ?_; intro _ HN; clear HM; have HM := Aside0.mk HN; clear HN))
  go_ret2
  exact ⟨g5, cap5, _, rest5, rfl, HM.out.new (g5, P120 ++ rest5, 242) (by repeat (first | exact List.Mem.head _ | apply List.Mem.tail)), HM.out.has (g5, P120 ++ rest5, 242) (by repeat (first | exact List.Mem.head _ | apply List.Mem.tail)), rfl, HF5.out, HM.out.bel⟩
abbrev C120 : Array Value := #[.int .i64 2, .string tc120, .int .i64 0, .string ⟨#[]⟩, .string ⟨#[]⟩, .slice none 0 0]
set_option maxRecDepth 20000 in
set_option maxHeartbeats 1000000 in
theorem icon120 (w : World) (hv : Vars w) : Calls Tryz.prog 65 #[.agg C120] w (ConEnd (.bool true) w) := by
  have HP := Lib.hid (fun W hb => nsc120 W (Vars.below (w := w) hv hb))
  have HM := Aside0.mk (Blks.start w)
  clear hv
  go_enter Tryz.func65, Tryz.ntmps65
  go_wp2_with (first
    | (go_at_call 95; ((with_reducible refine (HP.out _ (Blks.bel (by repeat (first | exact HM.out | apply Blks.drewN | apply Blks.drew | apply Blks.other)))).mono ?_); rintro e w5 ⟨g5, cap5, cells5, rest5, rfl, hg, hc, hl, hf, hb⟩; have HN := Aside0.mk (Blks.add (by repeat (first | exact HM.out | apply Blks.drewN | apply Blks.drew | apply Blks.other)) hb hg hc hl); clear HM hb hg hc hl; have HM := HN; clear HN; have HF5 := Lib.hid hf; clear hf))
    | (refine bk_load1 (by rfl) (by rfl) (by rfl) (by repeat (first | exact HM.out | apply Blks.drewN | apply Blks.drew | apply Blks.other)) (by repeat (first | exact List.Mem.head _ | apply List.Mem.tail)) (by first | exact oneS | exact oneSl | exact oneB | exact oneI) (by repeat (first | exact Rd.nil | apply Rd.here | apply Rd.skip)) ?_) | (refine bk_load (by rfl) (by rfl) (by rfl) (by repeat (first | exact HM.out | apply Blks.drewN | apply Blks.drew | apply Blks.other)) (by repeat (first | exact List.Mem.head _ | apply List.Mem.tail)) (by first | exact rowV | exact rowP | exact rowR | exact rowC | exact rowIV) (by repeat (first | exact Rd.nil | apply Rd.here | apply Rd.skip)) ?_) | (refine bk_alloc (by rfl) (by rfl) (by repeat (first | exact HM.out | apply Blks.drewN | apply Blks.drew | apply Blks.other)) (by first | exact zeroR | exact zeroV | exact zeroP) ?_; intro bq _ HN; clear HM; have HM := Aside0.mk HN; clear HN) | (refine bk_store1 (by rfl) (by rfl) (by rfl) (by rfl) (by first | exact (rfl : _ = Value.bool _) | exact (rfl : _ = Value.int _ _) | exact (rfl : _ = Value.string _) | exact (rfl : _ = Value.slice _ _ _) | exact (rfl : _ = Value.iface _ _) | exact (rfl : _ = Value.nilIface) | exact (rfl : _ = Value.pointer _)) (by repeat (first | exact HM.out | apply Blks.drewN | apply Blks.drew | apply Blks.other)) (by first | exact oneSl | exact oneB) (by rfl) (by repeat (first | exact List.Mem.head _ | apply List.Mem.tail)) (by repeat (first | exact Wr.nil | apply Wr.here | apply Wr.skip)) (by repeat (first | exact Up.here | apply Up.skip)) ?_; intro _ HN; clear HM; have HM := Aside0.mk HN; clear HN) | (refine bk_store (by rfl) (by rfl) (by rfl) (by rfl) (by rfl) (by repeat (first | exact HM.out | apply Blks.drewN | apply Blks.drew | apply Blks.other)) (by first | exact rowR | exact rowV | exact rowP) (by rfl) (by simp [Value.oneCell']) (by repeat (first | exact List.Mem.head _ | apply List.Mem.tail)) (by repeat (first | exact Wr.nil | apply Wr.here | apply Wr.skip)) (by repeat (first | exact Up.here | apply Up.skip)) ?_; intro _ HN; clear HM; have HM := Aside0.mk HN; clear HN) | (refine bk_box (by rfl) (by rfl) (by repeat (first | exact HM.out | apply Blks.drewN | apply Blks.drew | apply Blks.other)) (by rfl) ?_; intro bq _ HN; clear HM; have HM := Aside0.mk HN; clear HN))
  go_ret2
  exact ⟨g5, cap5, _, rest5, rfl, HM.out.new (g5, P120 ++ rest5, 242) (by repeat (first | exact List.Mem.head _ | apply List.Mem.tail)), HM.out.has (g5, P120 ++ rest5, 242) (by repeat (first | exact List.Mem.head _ | apply List.Mem.tail)), rfl, HF5.out, HM.out.bel⟩
abbrev t190 : ByteArray := ⟨#[49, 46, 57, 46, 48]⟩
def v190 : SV := ⟨1, 9, 0, ⟨#[]⟩, ⟨#[]⟩, t190⟩
theorem ver190 (w : World) (hv : Vars w) : Calls Tryz.prog 66 #[.agg #[.int .i64 3, .string t190, .string ⟨#[]⟩]] w fun e w' => e = .returned (Vers.val (.un (.sem v190))) ∧ Below w.heap.size w w' :=
  ver_any 3 t190 ⟨#[]⟩ (by decide) w hv
theorem mat120 (g cap : Nat) (cells : Array Value) (rest : List Value) (hf : RowF 1 cap 17 P120 rest) (hl : cells.toList = P120 ++ rest) (w : World) (hc : w.heap[g]? = some (.cells cells 242 (0, 0))) :
    Calls Tryz.prog 251 #[.agg #[.iface 238 (.agg #[.slice (some ⟨g, 0, none⟩) 1 cap])], Vers.val (.un (.sem v190))] w fun e w' => e = .returned (.bool true) ∧ Below w.heap.size w w' := by
  refine scm _ v190 w (fun W hW => ?_)
  have hc' : W.heap[g]? = some (.cells cells 242 (0, 0)) := (hW.block g (blk_lt hc)).trans hc
  refine range_in (pcs v120 v2 true true true false) (pcell_pcs _ _ _ _ _ _) v190 0 _ W ⟨hf.len, Or.inr ⟨g, cap, cells, rfl, Nat.zero_le _, hc', hf.le, hf.most, ?_, ?_⟩⟩ (has_in v120 v2 v190 (by decide) (by decide) (by decide) (by kernel_rfl) (by kernel_rfl) false)
  · rw [← Array.length_toList, hl]; exact hf.all
  · rw [hl]; show List.take (1 * 17) (P120 ++ rest) = P120; rw [← hf.len, List.take_left]
theorem n_sc_Matches (v : Value) (w : World) : (nilAhead 417 202 v "Matches").run Tryz.prog w = .ok (some false) w := by kernel_rfl
set_option maxRecDepth 20000 in
set_option maxHeartbeats 2000000 in
theorem matches120 (w : World) (hv : Vars w) : Calls Tryz.prog 27 #[.agg C120, .agg #[.int .i64 3, .string t190, .string ⟨#[]⟩]] w fun e w' => e = .returned (.bool true) ∧ Below w.heap.size w w' := by
  have HP := Lib.hid (fun W hb => icon120 W (Vars.below (w := w) hv hb))
  have HV := Lib.hid (fun W hb => ver190 W (Vars.below (w := w) hv hb))
  have HM := Aside0.mk (Blks.start w)
  have f1 := m_sc_Matches
  have f2 := n_sc_Matches
  clear hv
  go_enter Tryz.func27, Tryz.ntmps27
  go_wp2_with (first
    | (go_at_call 65; ((with_reducible refine (HP.out _ (Blks.bel (by repeat (first | exact HM.out | apply Blks.drewN | apply Blks.drew | apply Blks.other)))).mono ?_); rintro e w5 ⟨g5, cap5, cells5, rest5, rfl, hg, hc, hl, hf, hb⟩; have HC5 := Aside0.mk hc; have HL5 := Lib.hid hl; have HN := Aside0.mk (Blks.add (by repeat (first | exact HM.out | apply Blks.drewN | apply Blks.drew | apply Blks.other)) hb hg hc hl); clear HM hb hg hc hl; have HM := HN; clear HN; have HF5 := Lib.hid hf; clear hf))
    | (refine bk_load1 (by rfl) (by rfl) (by rfl) (by repeat (first | exact HM.out | apply Blks.drewN | apply Blks.drew | apply Blks.other)) (by repeat (first | exact List.Mem.head _ | apply List.Mem.tail)) (by first | exact oneS | exact oneSl | exact oneB | exact oneI) (by repeat (first | exact Rd.nil | apply Rd.here | apply Rd.skip)) ?_) | (refine bk_load (by rfl) (by rfl) (by rfl) (by repeat (first | exact HM.out | apply Blks.drewN | apply Blks.drew | apply Blks.other)) (by repeat (first | exact List.Mem.head _ | apply List.Mem.tail)) (by first | exact rowV | exact rowP | exact rowR | exact rowC | exact rowIV) (by repeat (first | exact Rd.nil | apply Rd.here | apply Rd.skip)) ?_) | (refine bk_alloc (by rfl) (by rfl) (by repeat (first | exact HM.out | apply Blks.drewN | apply Blks.drew | apply Blks.other)) (by first | exact zeroR | exact zeroV | exact zeroP) ?_; intro bq _ HN; clear HM; have HM := Aside0.mk HN; clear HN) | (refine bk_store1 (by rfl) (by rfl) (by rfl) (by rfl) (by first | exact (rfl : _ = Value.bool _) | exact (rfl : _ = Value.int _ _) | exact (rfl : _ = Value.string _) | exact (rfl : _ = Value.slice _ _ _) | exact (rfl : _ = Value.iface _ _) | exact (rfl : _ = Value.nilIface) | exact (rfl : _ = Value.pointer _)) (by repeat (first | exact HM.out | apply Blks.drewN | apply Blks.drew | apply Blks.other)) (by first | exact oneSl | exact oneB) (by rfl) (by repeat (first | exact List.Mem.head _ | apply List.Mem.tail)) (by repeat (first | exact Wr.nil | apply Wr.here | apply Wr.skip)) (by repeat (first | exact Up.here | apply Up.skip)) ?_; intro _ HN; clear HM; have HM := Aside0.mk HN; clear HN) | (refine bk_store (by rfl) (by rfl) (by rfl) (by rfl) (by rfl) (by repeat (first | exact HM.out | apply Blks.drewN | apply Blks.drew | apply Blks.other)) (by first | exact rowR | exact rowV | exact rowP) (by rfl) (by simp [Value.oneCell']) (by repeat (first | exact List.Mem.head _ | apply List.Mem.tail)) (by repeat (first | exact Wr.nil | apply Wr.here | apply Wr.skip)) (by repeat (first | exact Up.here | apply Up.skip)) ?_; intro _ HN; clear HM; have HM := Aside0.mk HN; clear HN) | (refine bk_box (by rfl) (by rfl) (by repeat (first | exact HM.out | apply Blks.drewN | apply Blks.drew | apply Blks.other)) (by rfl) ?_; intro bq _ HN; clear HM; have HM := Aside0.mk HN; clear HN))
  have hr := HM.out.range (b := bq) (o := 0) (n := 3) (by repeat (first | exact List.Mem.head _ | apply List.Mem.tail)) (by repeat (first | exact Rd.nil | apply Rd.here | apply Rd.skip))
  have k0 := fun d os => cell_regrown (show w5.cell? ⟨bq, 0, none⟩ = some (.int .i64 3) from hr 0 _ rfl) d os
  have k1 := fun d os => cell_regrown (show w5.cell? ⟨bq, 1, none⟩ = some (.string t190) from hr 1 _ rfl) d os
  have k2 := fun d os => cell_regrown (show w5.cell? ⟨bq, 2, none⟩ = some (.string ⟨#[]⟩) from hr 2 _ rfl) d os
  clear hr
  have HV5 := Lib.hid (fun d os => Calls.regrown_of (HV.out (grow (redrawn w5 d) os) (below_trans HM.out.bel (below_regrown w5 d os))))
  have HT5 := Lib.hid (fun d os => Calls.regrown_of (mat120 g5 cap5 cells5 rest5 HF5.out HL5.out (grow (redrawn w5 d) os) (((below_regrown w5 d os).block g5 (blk_lt HC5.out)).trans HC5.out)))
  refine wp_region_quiet_below (by kernel_rfl) (by kernel_rfl) ?_
  repeat (quiet_step (first | exact HV5.out _ _ | exact HT5.out _ _))
  refine wpQuiet_nil ?_
  intro _ hw'
  obtain ⟨⟨dq, osq⟩, hw''⟩ := hw'
  subst hw''
  go_wp2_with fail
  go_ret
  exact ⟨rfl, below_trans HM.out.bel (below_regrown w5 _ _)⟩
end Go.Proofs.YtgoeiflddikihaaGreatDoor.Ver
end
