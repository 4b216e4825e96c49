/- Merged by program out of: AwakeB. -/
import Derived.Test.YtgoeiflddikihaaGreatDoorCpM22
import Derived.Test.YtgoeiflddikihaaGreatDoorCpM17
import Derived.Test.YtgoeiflddikihaaGreatDoorCpM4
import Derived.Test.YtgoeiflddikihaaGreatDoorCpM9
section
namespace Go.Proofs.YtgoeiflddikihaaGreatDoor.Ver
set_option linter.unusedSimpArgs false
open Go.RowKit Go.Proofs.YtgoeiflddikihaaGreatDoor.Dig Go.Proofs.YtgoeiflddikihaaGreatDoorW.PrintWords Go.Proofs.YtgoeiflddikihaaGreatDoor.Mem
theorem rowV : RowT Tryz.prog 197 6 := ⟨⟨_, Tryz.underlying197, rfl⟩, by kernel_rfl⟩
theorem rowP : RowT Tryz.prog 242 17 := ⟨⟨_, Tryz.underlying242, rfl⟩, by kernel_rfl⟩
theorem oneB : OneT Tryz.prog 4 := ⟨⟨_, Tryz.underlying4, rfl⟩, by kernel_rfl⟩
theorem oneU : OneT Tryz.prog 46 := ⟨⟨_, Tryz.underlying46, rfl⟩, by kernel_rfl⟩
theorem zeroV : (Tryz.prog.info? 197).bind (fun i => i.zero.map (·.cells)) = some zSV := by kernel_rfl
theorem zeroP : (Tryz.prog.info? 242).bind (fun i => i.zero.map (·.cells)) = some zP := by kernel_rfl
theorem bs_one (cs : Array Value) (h : cs.size = 17) : Tryz.prog.builtSlice 242 1 [(0, .agg cs)] = some cs := by
  obtain ⟨iv, hvi, hvz0, hvz1, _⟩ := info_parts infoP
  unfold Program.builtSlice
  simp only [hvi, hvz0, hvz1]
  rw [if_neg (by decide)]
  exact fill_one cs _ h (by rw [Array.size_map, Array.size_range])
abbrev tc120 : ByteArray := ⟨#[94, 49, 46, 50, 46, 48]⟩
theorem trim120 (w : World) : Calls Tryz.prog 142 #[.string t120] w fun e w' => e = .returned (.string t120) ∧ Drawn0 w w' :=
  PFnIntersectAny.semver_trim.calls 10 t120 t120 w (by kernel_rfl)
set_option maxRecDepth 20000 in
set_option maxHeartbeats 4000000 in
theorem read1_120 (w : World) (hv : Vars w) : Calls Tryz.prog 141 #[.string tc120, .bool false] w fun e w' => ∃ r, e = .returned (.tuple #[.iface 238 (.agg #[r]), .nilIface]) ∧ w'.ownsRow w.heap.size 242 17 r 1 (pcs v120 ⟨2, 0, 0, ⟨#[]⟩, ⟨#[]⟩, ⟨#[]⟩⟩ true true true false).toList ∧ Below w.heap.size w w' := by
  have HP := Lib.hid (fun W hb => partial120 W (Vars.below (w := w) hv hb))
  have HM := Aside0.mk (Blks.start w)
  have HA3 := Lib.hid (fun W => after_3 v120 (by decide) (by decide) W)
  have HA1 := Lib.hid (fun W => after_1 v120 (by decide) (by decide) W)
  dsimp only [v120, SV.cells] at HP HA3 HA1
  rw [show (0 : Int) + 1 = 1 from rfl] at HA3
  rw [show (1 : Int) + 1 = 2 from rfl] at HA1
  have hx1 : tc120.extract 1 6 = t120 := by kernel_rfl
  have hx2 : (⟨#[]⟩ : ByteArray) ++ tc120.extract 0 1 = ⟨#[94]⟩ := by kernel_rfl
  clear hv
  go_enter Tryz.func141, Tryz.ntmps141
  go_wp2_with fail
  refine wp_loop_rounds 2 ?_
  rw [rounds_succ]
  go_wp2_with fail
  rw [rounds_succ]
  go_wp2_with (first
    | (go_at_call 142; ((with_reducible refine (trim120 _).mono ?_); rintro e w4 ⟨rfl, ⟨n4, rfl⟩⟩))
    | (go_at_call 150; ((with_reducible refine (HP.out _ (Blks.bel (by repeat (first | exact HM.out | apply Blks.drewN | apply Blks.drew | apply Blks.other)))).mono ?_); rintro e w5 ⟨rfl, hb⟩; have HN := Aside0.mk (Blks.call (by repeat (first | exact HM.out | apply Blks.drewN | apply Blks.drew | apply Blks.other)) hb); clear HM hb; have HM := HN; clear HN))
    | (go_at_call 151; ((with_reducible refine (HA3.out _).mono ?_); rintro e w6 ⟨rfl, hb⟩; have HN := Aside0.mk (Blks.call (by repeat (first | exact HM.out | apply Blks.drewN | apply Blks.drew | apply Blks.other)) hb); clear HM hb; have HM := HN; clear HN))
    | (go_at_call 151; ((with_reducible refine (HA1.out _).mono ?_); rintro e w7 ⟨rfl, hb⟩; have HN := Aside0.mk (Blks.call (by repeat (first | exact HM.out | apply Blks.drewN | apply Blks.drew | apply Blks.other)) hb); clear HM hb; have HM := HN; clear HN))
    | (refine bk_load (by rfl) (by rfl) (by rfl) (by repeat (first | exact HM.out | apply Blks.drewN | apply Blks.drew | apply Blks.other)) (by repeat (first | exact List.Mem.head _ | apply List.Mem.tail)) (by first | exact rowV | exact rowP) (by repeat (first | exact Rd.nil | apply Rd.here | apply Rd.skip)) ?_)
    | (refine bk_load1 (by rfl) (by rfl) (by rfl) (by repeat (first | exact HM.out | apply Blks.drewN | apply Blks.drew | apply Blks.other)) (by repeat (first | exact List.Mem.head _ | apply List.Mem.tail)) (by first | exact oneU | exact oneB) (by repeat (first | exact Rd.nil | apply Rd.here | apply Rd.skip)) ?_)
    | (refine bk_store (by rfl) (by rfl) (by rfl) (by rfl) (by rfl) (by repeat (first | exact HM.out | apply Blks.drewN | apply Blks.drew | apply Blks.other)) (by first | exact rowV | exact rowP) (by rfl) (by simp [Value.oneCell']) (by repeat (first | exact List.Mem.head _ | apply List.Mem.tail)) (by repeat (first | exact Wr.nil | apply Wr.here | apply Wr.skip)) (by repeat (first | exact Up.here | apply Up.skip)) ?_; intro _ HN; clear HM; have HM := Aside0.mk HN; clear HN)
    | (refine bk_store1 (by rfl) (by rfl) (by rfl) (by rfl) (by first | exact (rfl : _ = Value.bool _) | exact (rfl : _ = Value.int _ _) | exact (rfl : _ = Value.string _) | exact (rfl : _ = Value.slice _ _ _) | exact (rfl : _ = Value.iface _ _) | exact (rfl : _ = Value.nilIface) | exact (rfl : _ = Value.pointer _)) (by repeat (first | exact HM.out | apply Blks.drewN | apply Blks.drew | apply Blks.other)) (by first | exact oneB) (by rfl) (by repeat (first | exact List.Mem.head _ | apply List.Mem.tail)) (by repeat (first | exact Wr.nil | apply Wr.here | apply Wr.skip)) (by repeat (first | exact Up.here | apply Up.skip)) ?_; intro _ HN; clear HM; have HM := Aside0.mk HN; clear HN)
    | (refine bk_alloc (by rfl) (by rfl) (by repeat (first | exact HM.out | apply Blks.drewN | apply Blks.drew | apply Blks.other)) (by first | exact zeroV | exact zeroP) ?_; intro _ _ HN; clear HM; have HM := Aside0.mk HN; clear HN)
    | (refine bk_slice (by rfl) (by rfl) (by repeat (first | exact HM.out | apply Blks.drewN | apply Blks.drew | apply Blks.other)) Tryz.underlying236 (by rw [Array.toList_map]; exact bs_one _ rfl) ?_; intro _ _ HN; clear HM; have HM := Aside0.mk HN; clear HN))
  go_ret2
  exact ⟨_, rfl, Blks.row HM.out (List.Mem.head _) rfl (by unfold maxLen; omega), HM.out.bel⟩
end Go.Proofs.YtgoeiflddikihaaGreatDoor.Ver
end
