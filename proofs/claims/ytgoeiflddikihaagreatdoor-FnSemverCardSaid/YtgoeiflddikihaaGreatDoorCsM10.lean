/- Merged by program out of: AwakeD, AwakeS, VLess, VLess2, VSemC, VLess3. -/
import Derived.Test.YtgoeiflddikihaaGreatDoorCsM9
import Derived.Lib.QuietBelow
import Derived.BigQuiet
import Derived.Sort.Statements
import Derived.Test.YtgoeiflddikihaaGreatDoorCsM7
import Derived.Test.YtgoeiflddikihaaGreatDoorCsM8
import Derived.RegionTactic
import Derived.BigRegion
import Derived.Test.YtgoeiflddikihaaGreatDoorCsM6
section
namespace Go.Proofs.YtgoeiflddikihaaGreatDoor.Ver
set_option linter.unusedSimpArgs false
open Go.Sort (grow)
open Go.RowKit Go.Proofs.YtgoeiflddikihaaGreatDoor.Dig Go.Proofs.YtgoeiflddikihaaGreatDoorW.PrintWords Go.Proofs.YtgoeiflddikihaaGreatDoor.Mem
theorem rowC : RowT Tryz.prog 29 6 := ⟨⟨_, Tryz.underlying29, rfl⟩, by kernel_rfl⟩
theorem rowIV : RowT Tryz.prog 27 3 := ⟨⟨_, Tryz.underlying27, rfl⟩, by kernel_rfl⟩
theorem oneI : OneT Tryz.prog 2 := ⟨⟨_, Tryz.underlying2, rfl⟩, by kernel_rfl⟩
theorem newc120 (w : World) (hv : Vars w) : Calls Tryz.prog 118 #[.string tc120] w (RangeEnd w) := by
  have HP := Lib.hid (fun W hb => con120 W (Vars.below (w := w) hv hb))
  have HM := Aside0.mk (Blks.start w)
  clear hv
  go_enter Tryz.func118, Tryz.ntmps118
  go_wp2_with (first
    | (go_at_call 127; ((with_reducible refine (HP.out _ (Blks.bel (by repeat (first | exact HM.out | apply Blks.drewN | apply Blks.drew | apply Blks.other)))).mono ?_); rintro e w5 ⟨g5, cap5, cells5, rest5, rfl, hg, hc, hl, hf, hb⟩; have HN := Aside0.mk (Blks.add (by repeat (first | exact HM.out | apply Blks.drewN | apply Blks.drew | apply Blks.other)) hb hg hc hl); clear HM hb hg hc hl; have HM := HN; clear HN; have HF5 := Lib.hid hf; clear hf)))
  go_ret2
  exact ⟨g5, cap5, _, rest5, rfl, HM.out.new (g5, P120 ++ rest5, 242) (by repeat (first | exact List.Mem.head _ | apply List.Mem.tail)), HM.out.has (g5, P120 ++ rest5, 242) (by repeat (first | exact List.Mem.head _ | apply List.Mem.tail)), rfl, HF5.out, HM.out.bel⟩
def ConEnd (v : Value) (w : World) (e : Ending) (w' : World) : Prop :=
  ∃ g cap cells rest, e = .returned (.tuple #[.iface 202 (.agg #[.iface 238 (.agg #[.slice (some ⟨g, 0, none⟩) 1 cap])]), v]) ∧ w.heap.size ≤ g ∧ w'.heap[g]? = some (.cells cells 242 (0, 0)) ∧ cells.toList = P120 ++ rest ∧ RowF 1 cap 17 P120 rest ∧ Below w.heap.size w w'
set_option maxRecDepth 20000 in
set_option maxHeartbeats 1000000 in
theorem nsc120 (w : World) (hv : Vars w) : Calls Tryz.prog 95 #[.string tc120] w (ConEnd .nilIface w) := by
  have HP := Lib.hid (fun W hb => newc120 W (Vars.below (w := w) hv hb))
  have HM := Aside0.mk (Blks.start w)
  have f1 := c_range_sv
  clear hv
  go_enter Tryz.func95, Tryz.ntmps95
  go_wp2_with (first
    | (go_at_call 118; ((with_reducible refine (HP.out _ (Blks.bel (by repeat (first | exact HM.out | apply Blks.drewN | apply Blks.drew | apply Blks.other)))).mono ?_); rintro e w5 ⟨g5, cap5, cells5, rest5, rfl, hg, hc, hl, hf, hb⟩; have HN := Aside0.mk (Blks.add (by repeat (first | exact HM.out | apply Blks.drewN | apply Blks.drew | apply Blks.other)) hb hg hc hl); clear HM hb hg hc hl; have HM := HN; clear HN; have HF5 := Lib.hid hf; clear hf))
    | (refine bk_load1 (by rfl) (by rfl) (by rfl) (by repeat (first | exact HM.out | apply Blks.drewN | apply Blks.drew | apply Blks.other)) (by repeat (first | exact List.Mem.head _ | apply List.Mem.tail)) (by first | exact oneS | exact oneSl | exact oneB | exact oneI) (by repeat (first | exact Rd.nil | apply Rd.here | apply Rd.skip)) ?_) | (refine bk_load (by rfl) (by rfl) (by rfl) (by repeat (first | exact HM.out | apply Blks.drewN | apply Blks.drew | apply Blks.other)) (by repeat (first | exact List.Mem.head _ | apply List.Mem.tail)) (by first | exact rowV | exact rowP | exact rowR | exact rowC | exact rowIV) (by repeat (first | exact Rd.nil | apply Rd.here | apply Rd.skip)) ?_) | (refine bk_alloc (by rfl) (by rfl) (by repeat (first | exact HM.out | apply Blks.drewN | apply Blks.drew | apply Blks.other)) (by first | exact zeroR | exact zeroV | exact zeroP) ?_; intro bq _ HN; clear HM; have HM := Aside0.mk HN; clear HN) | (refine bk_store1 (by rfl) (by rfl) (by rfl) (by rfl) (by first | exact (rfl : _ = Value.bool _) | exact (rfl : _ = Value.int _ _) | exact (rfl : _ = Value.string _) | exact (rfl : _ = Value.slice _ _ _) | exact (rfl : _ = Value.iface _ _) | exact (rfl : _ = Value.nilIface) | exact (rfl : _ = Value.pointer _)) (by repeat (first | exact HM.out | apply Blks.drewN | apply Blks.drew | apply Blks.other)) (by first | exact oneSl | exact oneB) (by rfl) (by repeat (first | exact List.Mem.head _ | apply List.Mem.tail)) (by repeat (first | exact Wr.nil | apply Wr.here | apply Wr.skip)) (by repeat (first | exact Up.here | apply Up.skip)) ?_; intro _ HN; clear HM; have HM := Aside0.mk HN; clear HN) | (refine bk_store (by rfl) (by rfl) (by rfl) (by rfl) (by rfl) (by repeat (first | exact HM.out | apply Blks.drewN | apply Blks.drew | apply Blks.other)) (by first | exact rowR | exact rowV | exact rowP) (by rfl) (by simp [Value.oneCell']) (by repeat (first | exact List.Mem.head _ | apply List.Mem.tail)) (by repeat (first | exact Wr.nil | apply Wr.here | apply Wr.skip)) (by repeat (first | exact Up.here | apply Up.skip)) ?_; intro _ HN; clear HM; have HM := Aside0.mk HN; clear HN))
  go_ret2
  exact ⟨g5, cap5, _, rest5, rfl, HM.out.new (g5, P120 ++ rest5, 242) (by repeat (first | exact List.Mem.head _ | apply List.Mem.tail)), HM.out.has (g5, P120 ++ rest5, 242) (by repeat (first | exact List.Mem.head _ | apply List.Mem.tail)), rfl, HF5.out, HM.out.bel⟩
abbrev C120 : Array Value := #[.int .i64 2, .string tc120, .int .i64 0, .string ⟨#[]⟩, .string ⟨#[]⟩, .slice none 0 0]
set_option maxRecDepth 20000 in
set_option maxHeartbeats 1000000 in
theorem icon120 (w : World) (hv : Vars w) : Calls Tryz.prog 65 #[.agg C120] w (ConEnd (.bool true) w) := by
  have HP := Lib.hid (fun W hb => nsc120 W (Vars.below (w := w) hv hb))
  have HM := Aside0.mk (Blks.start w)
  clear hv
  go_enter Tryz.func65, Tryz.ntmps65
  go_wp2_with (first
    | (go_at_call 95; ((with_reducible refine (HP.out _ (Blks.bel (by repeat (first | exact HM.out | apply Blks.drewN | apply Blks.drew | apply Blks.other)))).mono ?_); rintro e w5 ⟨g5, cap5, cells5, rest5, rfl, hg, hc, hl, hf, hb⟩; have HN := Aside0.mk (Blks.add (by repeat (first | exact HM.out | apply Blks.drewN | apply Blks.drew | apply Blks.other)) hb hg hc hl); clear HM hb hg hc hl; have HM := HN; clear HN; have HF5 := Lib.hid hf; clear hf))
    | (refine bk_load1 (by rfl) (by rfl) (by rfl) (by repeat (first | exact HM.out | apply Blks.drewN | apply Blks.drew | apply Blks.other)) (by repeat (first | exact List.Mem.head _ | apply List.Mem.tail)) (by first | exact oneS | exact oneSl | exact oneB | exact oneI) (by repeat (first | exact Rd.nil | apply Rd.here | apply Rd.skip)) ?_) | (refine bk_load (by rfl) (by rfl) (by rfl) (by repeat (first | exact HM.out | apply Blks.drewN | apply Blks.drew | apply Blks.other)) (by repeat (first | exact List.Mem.head _ | apply List.Mem.tail)) (by first | exact rowV | exact rowP | exact rowR | exact rowC | exact rowIV) (by repeat (first | exact Rd.nil | apply Rd.here | apply Rd.skip)) ?_) | (refine bk_alloc (by rfl) (by rfl) (by repeat (first | exact HM.out | apply Blks.drewN | apply Blks.drew | apply Blks.other)) (by first | exact zeroR | exact zeroV | exact zeroP) ?_; intro bq _ HN; clear HM; have HM := Aside0.mk HN; clear HN) | (refine bk_store1 (by rfl) (by rfl) (by rfl) (by rfl) (by first | exact (rfl : _ = Value.bool _) | exact (rfl : _ = Value.int _ _) | exact (rfl : _ = Value.string _) | exact (rfl : _ = Value.slice _ _ _) | exact (rfl : _ = Value.iface _ _) | exact (rfl : _ = Value.nilIface) | exact (rfl : _ = Value.pointer _)) (by repeat (first | exact HM.out | apply Blks.drewN | apply Blks.drew | apply Blks.other)) (by first | exact oneSl | exact oneB) (by rfl) (by repeat (first | exact List.Mem.head _ | apply List.Mem.tail)) (by repeat (first | exact Wr.nil | apply Wr.here | apply Wr.skip)) (by repeat (first | exact Up.here | apply Up.skip)) ?_; intro _ HN; clear HM; have HM := Aside0.mk HN; clear HN) | (refine bk_store (by rfl) (by rfl) (by rfl) (by rfl) (by rfl) (by repeat (first | exact HM.out | apply Blks.drewN | apply Blks.drew | apply Blks.other)) (by first | exact rowR | exact rowV | exact rowP) (by rfl) (by simp [Value.oneCell']) (by repeat (first | exact List.Mem.head _ | apply List.Mem.tail)) (by repeat (first | exact Wr.nil | apply Wr.here | apply Wr.skip)) (by repeat (first | exact Up.here | apply Up.skip)) ?_; intro _ HN; clear HM; have HM := Aside0.mk HN; clear HN) | (refine bk_box (by rfl) (by rfl) (by repeat (first | exact HM.out | apply Blks.drewN | apply Blks.drew | apply Blks.other)) (by rfl) ?_; intro bq _ HN; clear HM; have HM := Aside0.mk HN; clear HN))
  go_ret2
  exact ⟨g5, cap5, _, rest5, rfl, HM.out.new (g5, P120 ++ rest5, 242) (by repeat (first | exact List.Mem.head _ | apply List.Mem.tail)), HM.out.has (g5, P120 ++ rest5, 242) (by repeat (first | exact List.Mem.head _ | apply List.Mem.tail)), rfl, HF5.out, HM.out.bel⟩
abbrev t190 : ByteArray := ⟨#[49, 46, 57, 46, 48]⟩
def v190 : SV := ⟨1, 9, 0, ⟨#[]⟩, ⟨#[]⟩, t190⟩
theorem ver190 (w : World) (hv : Vars w) : Calls Tryz.prog 66 #[.agg #[.int .i64 3, .string t190, .string ⟨#[]⟩]] w fun e w' => e = .returned (Vers.val (.un (.sem v190))) ∧ Below w.heap.size w w' :=
  ver_any 3 t190 ⟨#[]⟩ (by decide) w hv
theorem mat120 (g cap : Nat) (cells : Array Value) (rest : List Value) (hf : RowF 1 cap 17 P120 rest) (hl : cells.toList = P120 ++ rest) (w : World) (hc : w.heap[g]? = some (.cells cells 242 (0, 0))) :
    Calls Tryz.prog 251 #[.agg #[.iface 238 (.agg #[.slice (some ⟨g, 0, none⟩) 1 cap])], Vers.val (.un (.sem v190))] w fun e w' => e = .returned (.bool true) ∧ Below w.heap.size w w' := by
  refine scm _ v190 w (fun W hW => ?_)
  have hc' : W.heap[g]? = some (.cells cells 242 (0, 0)) := (hW.block g (blk_lt hc)).trans hc
  refine range_in (pcs v120 v2 true true true false) (pcell_pcs _ _ _ _ _ _) v190 0 _ W ⟨hf.len, Or.inr ⟨g, cap, cells, rfl, Nat.zero_le _, hc', hf.le, hf.most, ?_, ?_⟩⟩ (has_in v120 v2 v190 (by decide) (by decide) (by decide) (by kernel_rfl) (by kernel_rfl) false)
  · rw [← Array.length_toList, hl]; exact hf.all
  · rw [hl]; show List.take (1 * 17) (P120 ++ rest) = P120; rw [← hf.len, List.take_left]
theorem n_sc_Matches (v : Value) (w : World) : (nilAhead 417 202 v "Matches").run Tryz.prog w = .ok (some false) w := by kernel_rfl
set_option maxRecDepth 20000 in
set_option maxHeartbeats 2000000 in
theorem matches120 (w : World) (hv : Vars w) : Calls Tryz.prog 27 #[.agg C120, .agg #[.int .i64 3, .string t190, .string ⟨#[]⟩]] w fun e w' => e = .returned (.bool true) ∧ Below w.heap.size w w' := by
  have HP := Lib.hid (fun W hb => icon120 W (Vars.below (w := w) hv hb))
  have HV := Lib.hid (fun W hb => ver190 W (Vars.below (w := w) hv hb))
  have HM := Aside0.mk (Blks.start w)
  have f1 := m_sc_Matches
  have f2 := n_sc_Matches
  clear hv
  go_enter Tryz.func27, Tryz.ntmps27
  go_wp2_with (first
    | (go_at_call 65; ((with_reducible refine (HP.out _ (Blks.bel (by repeat (first | exact HM.out | apply Blks.drewN | apply Blks.drew | apply Blks.other)))).mono ?_); rintro e w5 ⟨g5, cap5, cells5, rest5, rfl, hg, hc, hl, hf, hb⟩; have HC5 := Aside0.mk hc; have HL5 := Lib.hid hl; have HN := Aside0.mk (Blks.add (by repeat (first | exact HM.out | apply Blks.drewN | apply Blks.drew | apply Blks.other)) hb hg hc hl); clear HM hb hg hc hl; have HM := HN; clear HN; have HF5 := Lib.hid hf; clear hf))
    | (refine bk_load1 (by rfl) (by rfl) (by rfl) (by repeat (first | exact HM.out | apply Blks.drewN | apply Blks.drew | apply Blks.other)) (by repeat (first | exact List.Mem.head _ | apply List.Mem.tail)) (by first | exact oneS | exact oneSl | exact oneB | exact oneI) (by repeat (first | exact Rd.nil | apply Rd.here | apply Rd.skip)) ?_) | (refine bk_load (by rfl) (by rfl) (by rfl) (by repeat (first | exact HM.out | apply Blks.drewN | apply Blks.drew | apply Blks.other)) (by repeat (first | exact List.Mem.head _ | apply List.Mem.tail)) (by first | exact rowV | exact rowP | exact rowR | exact rowC | exact rowIV) (by repeat (first | exact Rd.nil | apply Rd.here | apply Rd.skip)) ?_) | (refine bk_alloc (by rfl) (by rfl) (by repeat (first | exact HM.out | apply Blks.drewN | apply Blks.drew | apply Blks.other)) (by first | exact zeroR | exact zeroV | exact zeroP) ?_; intro bq _ HN; clear HM; have HM := Aside0.mk HN; clear HN) | (refine bk_store1 (by rfl) (by rfl) (by rfl) (by rfl) (by first | exact (rfl : _ = Value.bool _) | exact (rfl : _ = Value.int _ _) | exact (rfl : _ = Value.string _) | exact (rfl : _ = Value.slice _ _ _) | exact (rfl : _ = Value.iface _ _) | exact (rfl : _ = Value.nilIface) | exact (rfl : _ = Value.pointer _)) (by repeat (first | exact HM.out | apply Blks.drewN | apply Blks.drew | apply Blks.other)) (by first | exact oneSl | exact oneB) (by rfl) (by repeat (first | exact List.Mem.head _ | apply List.Mem.tail)) (by repeat (first | exact Wr.nil | apply Wr.here | apply Wr.skip)) (by repeat (first | exact Up.here | apply Up.skip)) ?_; intro _ HN; clear HM; have HM := Aside0.mk HN; clear HN) | (refine bk_store (by rfl) (by rfl) (by rfl) (by rfl) (by rfl) (by repeat (first | exact HM.out | apply Blks.drewN | apply Blks.drew | apply Blks.other)) (by first | exact rowR | exact rowV | exact rowP) (by rfl) (by simp [Value.oneCell']) (by repeat (first | exact List.Mem.head _ | apply List.Mem.tail)) (by repeat (first | exact Wr.nil | apply Wr.here | apply Wr.skip)) (by repeat (first | exact Up.here | apply Up.skip)) ?_; intro _ HN; clear HM; have HM := Aside0.mk HN; clear HN) | (refine bk_box (by rfl) (by rfl) (by repeat (first | exact HM.out | apply Blks.drewN | apply Blks.drew | apply Blks.other)) (by rfl) ?_; intro bq _ HN; clear HM; have HM := Aside0.mk HN; clear HN))
  have hr := HM.out.range (b := bq) (o := 0) (n := 3) (by repeat (first | exact List.Mem.head _ | apply List.Mem.tail)) (by repeat (first | exact Rd.nil | apply Rd.here | apply Rd.skip))
  have k0 := fun d os => cell_regrown (show w5.cell? ⟨bq, 0, none⟩ = some (.int .i64 3) from hr 0 _ rfl) d os
  have k1 := fun d os => cell_regrown (show w5.cell? ⟨bq, 1, none⟩ = some (.string t190) from hr 1 _ rfl) d os
  have k2 := fun d os => cell_regrown (show w5.cell? ⟨bq, 2, none⟩ = some (.string ⟨#[]⟩) from hr 2 _ rfl) d os
  clear hr
  have HV5 := Lib.hid (fun d os => Calls.regrown_of (HV.out (grow (redrawn w5 d) os) (below_trans HM.out.bel (below_regrown w5 d os))))
  have HT5 := Lib.hid (fun d os => Calls.regrown_of (mat120 g5 cap5 cells5 rest5 HF5.out HL5.out (grow (redrawn w5 d) os) (((below_regrown w5 d os).block g5 (blk_lt HC5.out)).trans HC5.out)))
  refine wp_region_quiet_below (by kernel_rfl) (by kernel_rfl) ?_
  repeat (quiet_step (first | exact HV5.out _ _ | exact HT5.out _ _))
  refine wpQuiet_nil ?_
  intro _ hw'
  obtain ⟨⟨dq, osq⟩, hw''⟩ := hw'
  subst hw''
  go_wp2_with fail
  go_ret
  exact ⟨rfl, below_trans HM.out.bel (below_regrown w5 _ _)⟩
end Go.Proofs.YtgoeiflddikihaaGreatDoor.Ver
end
section
namespace Go.Proofs.YtgoeiflddikihaaGreatDoor.Awk
open Go.Sort
theorem three {α : Type} [Inhabited α] {lt : α → α → Bool} (h : SWO lt) {c0 c1 c2 : α} (h21 : lt c2 c1 = true) (h20 : lt c2 c0 = true) (h10 : lt c1 c0 = true) {d' : Array α} (hp : PermIn 0 3 #[c0, c1, c2] d') (hs : SortedIn lt 0 3 d') :
    d' = #[c2, c1, c0] := by
  obtain ⟨hsz, _, hpm⟩ := hp
  have hsz3 : d'.size = 3 := hsz
  obtain ⟨l⟩ := d'
  have hl : l.length = 3 := hsz3
  match l, hl with
  | [x, y, z], _ =>
    have hpm' : [x, y, z].Perm [c0, c1, c2] := by simpa using hpm
    have s1 : lt y x = false := by simpa using hs 0 1 (by omega) (by omega) (by omega)
    have s2 : lt z x = false := by simpa using hs 0 2 (by omega) (by omega) (by omega)
    have s3 : lt z y = false := by simpa using hs 1 2 (by omega) (by omega) (by omega)
    have n01 : c0 ≠ c1 := fun e => by rw [e, h.irrefl] at h10; cases h10
    have n02 : c0 ≠ c2 := fun e => by rw [e, h.irrefl] at h20; cases h20
    have n12 : c1 ≠ c2 := fun e => by rw [e, h.irrefl] at h21; cases h21
    have hx : x ∈ [c0, c1, c2] := hpm'.mem_iff.1 (by simp)
    have hy : y ∈ [c0, c1, c2] := hpm'.mem_iff.1 (by simp)
    have hz : z ∈ [c0, c1, c2] := hpm'.mem_iff.1 (by simp)
    have k0 : c0 ∈ [x, y, z] := hpm'.mem_iff.2 (by simp)
    have k1 : c1 ∈ [x, y, z] := hpm'.mem_iff.2 (by simp)
    have k2 : c2 ∈ [x, y, z] := hpm'.mem_iff.2 (by simp)
    simp only [List.mem_cons, List.not_mem_nil, or_false] at hx hy hz
    rcases hx with rfl | rfl | rfl <;> rcases hy with rfl | rfl | rfl <;> rcases hz with rfl | rfl | rfl <;>
      first
        | rfl
        | (exfalso; simp [n01, n02, n12, n01.symm, n02.symm, n12.symm] at k0 k1 k2; done)
        | (exfalso; simp_all; done)
end Go.Proofs.YtgoeiflddikihaaGreatDoor.Awk
end
section
namespace Go.Proofs.YtgoeiflddikihaaGreatDoor.Ver
open Go.RowKit Go.Proofs.YtgoeiflddikihaaGreatDoorW.PrintWords Go.Proofs.YtgoeiflddikihaaGreatDoor.Ord
set_option maxHeartbeats 2000000 in
theorem cvt_any (l r : Vers) (hl : l.bare = l) (hr : r.bare = r) (w : World) :
    Calls Tryz.prog 205 #[l.val, r.val] w fun e w' => e = .returned (.int .i64 (natC l.rank r.rank)) ∧ Below w.heap.size w w' := by
  have c_rev_rev := c_rev_rev
  have c_rev_plain := c_rev_plain
  have c_rev_branch := c_rev_branch
  have c_rev_sem := c_rev_sem
  have c_plain_rev := c_plain_rev
  have c_plain_plain := c_plain_plain
  have c_plain_branch := c_plain_branch
  have c_plain_sem := c_plain_sem
  have c_branch_rev := c_branch_rev
  have c_branch_plain := c_branch_plain
  have c_branch_branch := c_branch_branch
  have c_branch_sem := c_branch_sem
  have c_sem_rev := c_sem_rev
  have c_sem_plain := c_sem_plain
  have c_sem_branch := c_sem_branch
  have c_sem_sem := c_sem_sem
  have HB := Aside0.mk (Below.refl w.heap.size w)
  rcases l with s | (⟨n, d⟩ | s | v) | ⟨u, x⟩
  all_goals first | (exfalso; cases hl; done) | skip
  all_goals
    rcases r with s' | (⟨n', d'⟩ | s' | v') | ⟨u, x⟩
    all_goals first | (exfalso; cases hr; done) | skip
    all_goals
      clear hl hr
      dsimp only [Vers.val, Vers.tid, Vers.inner, Unp.val, Unp.tid, Unp.inner, SV.cells, Vers.rank, Unp.rank]
      go_enter Tryz.func205, Tryz.ntmps205
      go_wp2_with fail
      go_ret
      exact ⟨rfl, by repeat (first | exact HB.out | apply below_alloc | apply pw_below_drewN)⟩
theorem p_branch (v : Value) (xT : TypeId) (w : World) : (Instr.typeAssert (.iface 215 v) xT 215 false).run Tryz.prog w = .ok v w := by kernel_rfl
theorem p_sem (v : Value) (xT : TypeId) (w : World) : (Instr.typeAssert (.iface 200 v) xT 200 false).run Tryz.prog w = .ok v w := by kernel_rfl
theorem bare_bare (l : Vers) : l.bare.bare = l.bare := by rcases l with _ | _ | _ <;> rfl
theorem cvt_at (l r : Vers) {k : Int} (hk : natC l.rank r.rank = k) (w : World) :
    Calls Tryz.prog 205 #[l.bare.val, r.bare.val] w fun e w' => e = .returned (.int .i64 k) ∧ Below w.heap.size w w' := by
  have h := cvt_any l.bare r.bare (bare_bare l) (bare_bare r) w
  have e1 : l.bare.rank = l.rank := by rcases l with s | u | ⟨u, x⟩ <;> rfl
  have e2 : r.bare.rank = r.rank := by rcases r with s | u | ⟨u, x⟩ <;> rfl
  rw [e1, e2, hk] at h
  exact h
set_option maxRecDepth 20000 in
set_option maxHeartbeats 8000000 in
theorem vless_rank (l r : Vers) (down : Bool) (hne : l.rank ≠ r.rank) (w : World) :
    Calls Tryz.prog 204 #[l.val, r.val, .bool down] w fun e w' => e = .returned (.bool (lessV down l r)) ∧ Below w.heap.size w w' := by
  have HB := Aside0.mk (Below.refl w.heap.size w)
  rw [less_rank hne]
  have cp1 := c_rev_pair
  have cp2 := c_branch_pair
  have cp3 := c_plain_pair
  have cp4 := c_sem_pair
  have cp5 := c_pair_pair
  rcases Nat.lt_or_gt_of_ne hne with hlt | hgt
  · have HC := Lib.hid (fun W => cvt_at l r (k := -1) (by unfold natC; rw [if_pos hlt]) W)
    rw [decide_eq_true hlt]
    rcases l with s | (⟨n, d⟩ | s | v) | ⟨(⟨n, d⟩ | s | v), x⟩
    all_goals
      rcases r with s' | (⟨n', d'⟩ | s' | v') | ⟨(⟨n', d'⟩ | s' | v'), x'⟩
      all_goals first | (exfalso; simp [Vers.rank, Unp.rank] at hlt; done) | skip
      all_goals
        clear hlt hne
        dsimp only [Vers.val, Vers.tid, Vers.inner, Unp.val, Unp.tid, Unp.inner, SV.cells, Vers.bare] at HC ⊢
        go_enter Tryz.func204, Tryz.ntmps204
        go_wp2_with (first
          | (go_at_call 205; ((with_reducible refine (HC.out _).mono ?_); rintro e w1 ⟨rfl, hb⟩; have HB5 := Aside0.mk (below_trans (by repeat (first | exact HB.out | apply below_alloc | apply pw_below_drewN | refine below_set ?_ (by first | exact Nat.le_refl _ | (simp; done) | (simp; omega)))) hb); clear hb)))
        go_ret
        exact ⟨rfl, by repeat (first | exact HB5.out | apply below_alloc | apply pw_below_drewN)⟩
  · have HC := Lib.hid (fun W => cvt_at l r (k := 1) (by unfold natC; rw [if_neg (by omega), if_pos hgt]) W)
    rw [decide_eq_false (by omega)]
    rcases l with s | (⟨n, d⟩ | s | v) | ⟨(⟨n, d⟩ | s | v), x⟩
    all_goals
      rcases r with s' | (⟨n', d'⟩ | s' | v') | ⟨(⟨n', d'⟩ | s' | v'), x'⟩
      all_goals first | (exfalso; simp [Vers.rank, Unp.rank] at hgt; done) | skip
      all_goals
        clear hgt hne
        dsimp only [Vers.val, Vers.tid, Vers.inner, Unp.val, Unp.tid, Unp.inner, SV.cells, Vers.bare] at HC ⊢
        go_enter Tryz.func204, Tryz.ntmps204
        go_wp2_with (first
          | (go_at_call 205; ((with_reducible refine (HC.out _).mono ?_); rintro e w1 ⟨rfl, hb⟩; have HB5 := Aside0.mk (below_trans (by repeat (first | exact HB.out | apply below_alloc | apply pw_below_drewN | refine below_set ?_ (by first | exact Nat.le_refl _ | (simp; done) | (simp; omega)))) hb); clear hb)))
        go_ret
        exact ⟨rfl, by repeat (first | exact HB5.out | apply below_alloc | apply pw_below_drewN)⟩
end Go.Proofs.YtgoeiflddikihaaGreatDoor.Ver
end
section
namespace Go.Proofs.YtgoeiflddikihaaGreatDoor.Ver
open Go.RowKit Go.Proofs.YtgoeiflddikihaaGreatDoorW.PrintWords Go.Proofs.YtgoeiflddikihaaGreatDoor.Ord
set_option maxRecDepth 20000 in
set_option maxHeartbeats 8000000 in
theorem vless_name (l r : Vers) (down : Bool) (hr : l.rank = r.rank) (h2 : 2 ≤ l.rank) (w : World) :
    Calls Tryz.prog 204 #[l.val, r.val, .bool down] w fun e w' => e = .returned (.bool (lessV down l r)) ∧ Below w.heap.size w w' := by
  have HB := Aside0.mk (Below.refl w.heap.size w)
  rw [← less_bare]
  have HC := Lib.hid (fun W => cvt_at l r (k := 0) (by rw [hr]; exact cmp_nat.refl _) W)
  have c1 := c_rev_pair
  have c2 := c_branch_pair
  have c3 := c_plain_pair
  have c5 := c_pair_pair
  have c6 := c_rev_branch
  have c7 := c_rev_rev
  have c8 := c_rev_plain
  have c9 := c_plain_branch
  have c10 := c_plain_rev
  have c11 := c_plain_plain
  have m1 := m_rev_String
  have m2 := m_plain_String
  rcases l with s | (⟨n, d⟩ | s | v) | ⟨(⟨n, d⟩ | s | v), x⟩
  all_goals first | (exfalso; simp [Vers.rank, Unp.rank] at h2; done) | skip
  all_goals
    rcases r with s' | (⟨n', d'⟩ | s' | v') | ⟨(⟨n', d'⟩ | s' | v'), x'⟩
    all_goals first | (exfalso; simp [Vers.rank, Unp.rank] at hr; done) | skip
    all_goals
      clear h2 hr
      dsimp only [Vers.bare]
      first | rw [less_rev] | rw [less_plain]
      dsimp only [Vers.val, Vers.tid, Vers.inner, Unp.val, Unp.tid, Unp.inner, SV.cells, Vers.bare] at HC ⊢
      rw [← ByteArray.toList_eq, ← ByteArray.toList_eq]
      generalize hbl : Op.bytesLess _ _ = b
      go_enter Tryz.func204, Tryz.ntmps204
      go_wp2_with (first
        | (go_at_call 205; ((with_reducible refine (HC.out _).mono ?_); rintro e w1 ⟨rfl, hb⟩; have HB5 := Aside0.mk (below_trans (by repeat (first | exact HB.out | apply below_alloc | apply pw_below_drewN | refine below_set ?_ (by first | exact Nat.le_refl _ | (simp; done) | (simp; omega)))) hb); clear hb))
        | go_in)
      go_ret
      exact ⟨rfl, by repeat (first | exact HB5.out | apply below_alloc | apply pw_below_drewN)⟩
set_option maxRecDepth 20000 in
set_option maxHeartbeats 8000000 in
theorem vless_branch (l r : Vers) (down : Bool) (h1 : l.rank = 1) (h2 : r.rank = 1) (w : World) :
    Calls Tryz.prog 204 #[l.val, r.val, .bool down] w fun e w' => e = .returned (.bool (lessV down l r)) ∧ Below w.heap.size w w' := by
  have HB := Aside0.mk (Below.refl w.heap.size w)
  rw [← less_bare]
  have HC := Lib.hid (fun W => cvt_at l r (k := 0) (by rw [h1, h2]; exact cmp_nat.refl _) W)
  have c2 := c_branch_pair
  have c5 := c_pair_pair
  have c6 := c_branch_branch
  have c7 := p_branch
  have m1 := m_branch_String
  rcases l with s | (⟨n, d⟩ | s | v) | ⟨(⟨n, d⟩ | s | v), x⟩
  all_goals first | (exfalso; simp [Vers.rank, Unp.rank] at h1; done) | skip
  all_goals
    rcases r with s' | (⟨n', d'⟩ | s' | v') | ⟨(⟨n', d'⟩ | s' | v'), x'⟩
    all_goals first | (exfalso; simp [Vers.rank, Unp.rank] at h2; done) | skip
    all_goals
      clear h1 h2
      dsimp only [Vers.bare]
      rw [less_branch]
      dsimp only [Vers.val, Vers.tid, Vers.inner, Unp.val, Unp.tid, Unp.inner, SV.cells, Vers.bare] at HC ⊢
      rw [← ByteArray.toList_eq, ← ByteArray.toList_eq]
      generalize hbl : Op.bytesLess _ _ = b
      cases d <;> cases d'
      all_goals
        go_enter Tryz.func204, Tryz.ntmps204
        go_wp2_with (first
          | (go_at_call 205; ((with_reducible refine (HC.out _).mono ?_); rintro e w1 ⟨rfl, hb⟩; have HB5 := Aside0.mk (below_trans (by repeat (first | exact HB.out | apply below_alloc | apply pw_below_drewN | refine below_set ?_ (by first | exact Nat.le_refl _ | (simp; done) | (simp; omega)))) hb); clear hb))
          | go_in)
        go_ret
        exact ⟨rfl, by repeat (first | exact HB5.out | apply below_alloc | apply pw_below_drewN)⟩
end Go.Proofs.YtgoeiflddikihaaGreatDoor.Ver
end
section
namespace Go.Proofs.YtgoeiflddikihaaGreatDoor.Ver
open Go.RowKit Go.Proofs.YtgoeiflddikihaaGreatDoorW.PrintWords Go.Proofs.YtgoeiflddikihaaGreatDoor.Ord
set_option maxHeartbeats 2000000 in
theorem less_any (v u : SV) (hv : v.pre.size ≤ 140737488351232) (hu : u.pre.size ≤ 140737488351232) (w : World) :
    Calls Tryz.prog 207 #[.agg v.cells, .agg u.cells] w fun e w' => e = .returned (.bool (decide (cmpV v u < 0))) ∧ Below w.heap.size w w' := by
  have HC := Lib.hid (fun W => cmp_any v u hv hu W)
  have HB := Aside0.mk (Below.refl w.heap.size w)
  generalize cmpV v u = c at *
  obtain ⟨va, vb, vc, vp, vm, vo⟩ := v
  obtain ⟨ua, ub, uc, up, um, uo⟩ := u
  dsimp only [SV.cells] at HC hv hu ⊢
  go_enter Tryz.func207, Tryz.ntmps207
  go_wp2_with (first
    | (go_at_call 209; ((with_reducible refine (HC.out _).mono ?_); rintro e w1 ⟨rfl, hb⟩; have HB5 := Aside0.mk (below_trans (by repeat (first | exact HB.out | apply below_alloc | apply pw_below_drewN)) hb); clear hb)))
  go_ret
  exact ⟨rfl, by repeat (first | exact HB5.out | apply below_alloc | apply pw_below_drewN)⟩
set_option maxHeartbeats 2000000 in
theorem more_any (v u : SV) (hv : v.pre.size ≤ 140737488351232) (hu : u.pre.size ≤ 140737488351232) (w : World) :
    Calls Tryz.prog 208 #[.agg v.cells, .agg u.cells] w fun e w' => e = .returned (.bool (decide (cmpV v u > 0))) ∧ Below w.heap.size w w' := by
  have HC := Lib.hid (fun W => cmp_any v u hv hu W)
  have HB := Aside0.mk (Below.refl w.heap.size w)
  generalize cmpV v u = c at *
  obtain ⟨va, vb, vc, vp, vm, vo⟩ := v
  obtain ⟨ua, ub, uc, up, um, uo⟩ := u
  dsimp only [SV.cells] at HC hv hu ⊢
  go_enter Tryz.func208, Tryz.ntmps208
  go_wp2_with (first
    | (go_at_call 209; ((with_reducible refine (HC.out _).mono ?_); rintro e w1 ⟨rfl, hb⟩; have HB5 := Aside0.mk (below_trans (by repeat (first | exact HB.out | apply below_alloc | apply pw_below_drewN)) hb); clear hb)))
  go_ret
  exact ⟨rfl, by repeat (first | exact HB5.out | apply below_alloc | apply pw_below_drewN)⟩
theorem prerel_any (v : SV) (w : World) :
    Calls Tryz.prog 206 #[.agg v.cells] w fun e w' => e = .returned (.string v.pre) ∧ Below w.heap.size w w' := by
  have HB := Aside0.mk (Below.refl w.heap.size w)
  obtain ⟨va, vb, vc, vp, vm, vo⟩ := v
  dsimp only [SV.cells]
  go_enter Tryz.func206, Tryz.ntmps206
  go_wp2_with fail
  go_ret
  exact ⟨rfl, by repeat (first | exact HB.out | apply below_alloc | apply pw_below_drewN)⟩
end Go.Proofs.YtgoeiflddikihaaGreatDoor.Ver
end
section
namespace Go.Proofs.YtgoeiflddikihaaGreatDoor.Ver
open Go.RowKit Go.Proofs.YtgoeiflddikihaaGreatDoorW.PrintWords Go.Proofs.YtgoeiflddikihaaGreatDoor.Ord
theorem at_two (w : World) (a b : Obj) : ((w.alloc a).alloc b).heap[w.heap.size + 1]? = some b := by
  have := alloc_at (w.alloc a) b
  rw [alloc_size] at this
  exact this
theorem fld_sem (a b c : Int) (p m o : ByteArray) (W : World) : (Instr.field 200 (.agg #[.int .u64 a, .int .u64 b, .int .u64 c, .string p, .string m, .string o]) 0).run Tryz.prog W = .ok (.agg #[.int .u64 a, .int .u64 b, .int .u64 c, .string p, .string m, .string o]) W := by kernel_rfl
set_option maxRecDepth 20000 in
set_option maxHeartbeats 8000000 in
theorem vless_sem (l r : Vers) (v u : SV) (hl : l.bare = .un (.sem v)) (hr : r.bare = .un (.sem u)) (hv : v.pre.size ≤ 140737488351232) (hu : u.pre.size ≤ 140737488351232) (down : Bool) (w : World) :
    Calls Tryz.prog 204 #[l.val, r.val, .bool down] w fun e w' => e = .returned (.bool (lessV down l r)) ∧ Below w.heap.size w w' := by
  have HB := Aside0.mk (Below.refl w.heap.size w)
  have h1 : l.rank = 0 := by rcases l with s | (⟨n, d⟩ | s | v) | ⟨(⟨n, d⟩ | s | v), x⟩ <;> first | rfl | cases hl
  have h2 : r.rank = 0 := by rcases r with s | (⟨n, d⟩ | s | v) | ⟨(⟨n, d⟩ | s | v), x⟩ <;> first | rfl | cases hr
  rw [← less_bare]
  have HC := Lib.hid (fun W => cvt_at l r (k := 0) (by rw [h1, h2]; exact cmp_nat.refl _) W)
  rw [hl, hr, less_sem] 
  rw [hl, hr] at HC
  have PV : ∀ (W : World) d os, Calls Tryz.prog 206 #[.agg v.cells] (Sort.grow (redrawn W d) os) fun e w'' => e = .returned (.string v.pre) ∧ ∃ p : Regrown, w'' = Sort.grow (redrawn W p.d) p.os := fun W d os => Calls.regrown_of (prerel_any v _)
  have PU : ∀ (W : World) d os, Calls Tryz.prog 206 #[.agg u.cells] (Sort.grow (redrawn W d) os) fun e w'' => e = .returned (.string u.pre) ∧ ∃ p : Regrown, w'' = Sort.grow (redrawn W p.d) p.os := fun W d os => Calls.regrown_of (prerel_any u _)
  have HL := Lib.hid (fun W => less_any v u hv hu W)
  have HM := Lib.hid (fun W => more_any v u hv hu W)
  rw [← ByteArray.toList_eq, ← ByteArray.toList_eq]
  generalize hres : (if v.pre.toList.isEmpty = u.pre.toList.isEmpty then (if down = true then decide (cmpV v u < 0) else decide (cmpV v u > 0)) else v.pre.toList.isEmpty) = res
  have HRES := Lib.hid hres
  clear hres
  generalize cmpV v u = c at *
  have c1 := c_sem_pair
  have c2 := c_pair_pair
  have c3 := c_sem_branch
  have c4 := c_sem_rev
  have c5 := c_sem_plain
  have c6 := p_sem
  have c7 := fld_sem
  obtain ⟨va, vb, vc, vp, vm, vo⟩ := v
  obtain ⟨ua, ub, uc, up, um, uo⟩ := u
  dsimp only at hv hu HRES
  have hl' : l = .un (.sem ⟨va, vb, vc, vp, vm, vo⟩) ∨ ∃ x, l = .pair (.sem ⟨va, vb, vc, vp, vm, vo⟩) x := by
    rcases l with s | (⟨n, d⟩ | s | v) | ⟨(⟨n, d⟩ | s | v), x⟩ <;> first | (cases hl; done) | (injection hl with e; injection e with e; subst e; first | exact Or.inl rfl | exact Or.inr ⟨_, rfl⟩)
  have hr' : r = .un (.sem ⟨ua, ub, uc, up, um, uo⟩) ∨ ∃ x, r = .pair (.sem ⟨ua, ub, uc, up, um, uo⟩) x := by
    rcases r with s | (⟨n, d⟩ | s | v) | ⟨(⟨n, d⟩ | s | v), x⟩ <;> first | (cases hr; done) | (injection hr with e; injection e with e; subst e; first | exact Or.inl rfl | exact Or.inr ⟨_, rfl⟩)
  clear hl hr h1 h2
  rcases hl' with rfl | ⟨x, rfl⟩
  all_goals
    rcases hr' with rfl | ⟨x', rfl⟩
    all_goals
      dsimp only [Vers.val, Vers.tid, Vers.inner, Unp.val, Unp.tid, Unp.inner, SV.cells, Vers.bare] at HC PV PU HL HM ⊢
      have QV := Lib.hid PV
      have QU := Lib.hid PU
      clear PV PU
      go_enter Tryz.func204, Tryz.ntmps204
      go_upto_region 24 with (first
          | (go_at_call 205; ((with_reducible refine (HC.out _).mono ?_); rintro e w1 ⟨rfl, hb⟩; have HB5 := Aside0.mk (below_trans (by repeat (first | exact HB.out | apply below_alloc | apply pw_below_drewN | refine below_set ?_ (by first | exact Nat.le_refl _ | (simp; done) | (simp; omega)))) hb); clear hb)))
      go_cut [14, 15] (fun v14 v15 wx => ∃ g h : Nat, v14 = .pointer (some ⟨g, 0, none⟩) ∧ v15 = .pointer (some ⟨h, 0, none⟩) ∧ Aside0 (wx.heap[g]? = some (bSV va vb vc vp vm vo)) ∧ Aside0 (wx.heap[h]? = some (bSV ua ub uc up um uo)) ∧ Aside0 (Below w.heap.size w wx))
      case first =>
        go_region
        all_goals
          go_wp2_with fail
          go_meet
          case rel =>
            refine ⟨_, _, rfl, rfl, ⟨?_⟩, ⟨?_⟩, ⟨?_⟩⟩
            · first | exact blk_drew (blk_alloc (alloc_at w1 _) _) | exact blk_drew (at_two w1 _ _)
            · first | exact blk_drew (blk_alloc (alloc_at w1 _) _) | exact blk_drew (at_two w1 _ _)
            · exact below_drew (below_alloc (below_alloc HB5.out _) _)
      case rest =>
        obtain ⟨g, h, rfl, rfl, HG, HH, HB6⟩ := hcut
        have k0 := cell_regrown (blk_cell HG.out 0)
        have j0 := cell_regrown (blk_cell HH.out 0)
        have k1 := cell_regrown (blk_cell HG.out 1)
        have j1 := cell_regrown (blk_cell HH.out 1)
        have k2 := cell_regrown (blk_cell HG.out 2)
        have j2 := cell_regrown (blk_cell HH.out 2)
        have k3 := cell_regrown (blk_cell HG.out 3)
        have j3 := cell_regrown (blk_cell HH.out 3)
        have k4 := cell_regrown (blk_cell HG.out 4)
        have j4 := cell_regrown (blk_cell HH.out 4)
        have k5 := cell_regrown (blk_cell HG.out 5)
        have j5 := cell_regrown (blk_cell HH.out 5)
        go_wp2_with fail
        refine wp_region_quiet_below (by kernel_rfl) (by kernel_rfl) ?_
        repeat (quiet_step (first | exact QV.out _ _ _ | exact QU.out _ _ _))
        refine wpQuiet_nil ?_
        intro _ hw'
        obtain ⟨⟨dq, osq⟩, hw''⟩ := hw'
        subst hw''
        have HB7 := Aside0.mk (below_trans HB6.out (below_regrown _ dq osq))
        have z0 := k0 dq osq
        have y0 := j0 dq osq
        clear k0 j0
        have z1 := k1 dq osq
        have y1 := j1 dq osq
        clear k1 j1
        have z2 := k2 dq osq
        have y2 := j2 dq osq
        clear k2 j2
        have z3 := k3 dq osq
        have y3 := j3 dq osq
        clear k3 j3
        have z4 := k4 dq osq
        have y4 := j4 dq osq
        clear k4 j4
        have z5 := k5 dq osq
        have y5 := j5 dq osq
        clear k5 j5
        cases ha : vp.toList.isEmpty <;> cases hb : up.toList.isEmpty <;> cases down
        all_goals
          go_wp2_with (first
            | (go_at_call 207; ((with_reducible refine (HL.out _).mono ?_); rintro e w8 ⟨rfl, hb8⟩; have HB8 := Aside0.mk (below_trans HB7.out hb8); clear hb8))
            | (go_at_call 208; ((with_reducible refine (HM.out _).mono ?_); rintro e w8 ⟨rfl, hb8⟩; have HB8 := Aside0.mk (below_trans HB7.out hb8); clear hb8)))
          go_ret
          exact ⟨by rw [← HRES.out]; simp [ha, hb], by repeat (first | exact HB8.out | exact HB7.out | apply below_alloc | apply pw_below_drewN)⟩
end Go.Proofs.YtgoeiflddikihaaGreatDoor.Ver
end
