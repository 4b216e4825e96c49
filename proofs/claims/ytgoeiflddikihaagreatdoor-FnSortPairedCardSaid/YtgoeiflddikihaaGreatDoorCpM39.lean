/- Merged by program out of: AwakeE, SemL. -/
import Derived.Test.YtgoeiflddikihaaGreatDoorCpM26
import Derived.Test.YtgoeiflddikihaaGreatDoorCpM4
import Derived.Test.YtgoeiflddikihaaGreatDoorCpM35
import Derived.Test.YtgoeiflddikihaaGreatDoorCpM38
import Derived.Test.YtgoeiflddikihaaGreatDoorCpM32
import Derived.Deep.Cut
import Derived.Deep.CutRange
section
namespace Go.Proofs.YtgoeiflddikihaaGreatDoor.Ver
set_option linter.unusedSimpArgs false
open Go.RowKit Go.Proofs.YtgoeiflddikihaaGreatDoor.Dig Go.Proofs.YtgoeiflddikihaaGreatDoorW.PrintWords Go.Proofs.YtgoeiflddikihaaGreatDoor.Mem Go.Sort Go.Proofs.YtgoeiflddikihaaGreatDoor.Srt
theorem rowTold : RowT Tryz.prog 54 9 := ⟨⟨_, Tryz.underlying54, rfl⟩, by kernel_rfl⟩
theorem zeroTold : (Tryz.prog.info? 54).bind (fun i => i.zero.map (·.cells)) = some zTold := by kernel_rfl
abbrev t123 : ByteArray := ⟨#[118, 49, 46, 50, 46, 51]⟩
abbrev tr : ByteArray := ⟨#[114]⟩
abbrev tdev : ByteArray := ⟨#[100, 101, 118]⟩
abbrev t100 : ByteArray := ⟨#[49, 46, 48, 46, 48]⟩
abbrev t110 : ByteArray := ⟨#[49, 46, 49, 46, 48]⟩
def v123 : SV := ⟨1, 2, 3, ⟨#[]⟩, ⟨#[]⟩, t123⟩
theorem read123 : readV t123 = some (v123, 3) := by kernel_rfl
theorem of123 (w : World) (hv : Vars w) : Calls Tryz.prog 35 #[.agg #[.int .i64 3, .string t123, .string tr]] w fun e w' => e = .returned (told 2 t123 (⟨#[61]⟩ ++ semB v123) tr ⟨#[]⟩ t123 tr t123 true) ∧ Below w.heap.size w w' :=
  of_psem 3 t123 tr (by decide) w hv v123 (readV_ok' (by decide) read123).1 (by decide) (by rw [show (semB v123).size = 5 by kernel_rfl]; omega) tr (by kernel_rfl)
def x0 : VD := ⟨1, tdev, ⟨#[]⟩, by decide⟩
def x1 : VD := ⟨3, t100, ⟨#[]⟩, by decide⟩
def x2 : VD := ⟨3, t110, ⟨#[]⟩, by decide⟩
abbrev In3 : Array Value := #[.int .i64 1, .string tdev, .string ⟨#[]⟩, .int .i64 3, .string t100, .string ⟨#[]⟩, .int .i64 3, .string t110, .string ⟨#[]⟩]
def Out3 : List Value := [.int .i64 3, .string t110, .string ⟨#[]⟩, .int .i64 3, .string t100, .string ⟨#[]⟩, .int .i64 1, .string tdev, .string ⟨#[]⟩]
theorem bs_v3 : Tryz.prog.builtSlice 27 3 [(0, .agg #[.int .i64 1, .string tdev, .string ⟨#[]⟩]), (1, .agg #[.int .i64 3, .string t100, .string ⟨#[]⟩]), (2, .agg #[.int .i64 3, .string t110, .string ⟨#[]⟩])] = some In3 := by kernel_rfl
theorem at3 {w : World} {b : Nat} (h : w.rangeAt b 0 In3.toList) : AtV w (.slice (some ⟨b, 0, none⟩) 3 3) [x0, x1, x2] := by
  refine ⟨⟨some ⟨b, 0, none⟩, 3, rfl, fun _ => ⟨b, 0, rfl, fun i hi => ?_⟩⟩⟩
  have h3 : i < 3 := hi
  rcases i with _ | _ | _ | i
  · exact ⟨h 0 _ rfl, h 1 _ rfl, h 2 _ rfl⟩
  · exact ⟨h 3 _ rfl, h 4 _ rfl, h 5 _ rfl⟩
  · exact ⟨h 6 _ rfl, h 7 _ rfl, h 8 _ rfl⟩
  · omega
theorem lt21 : ltV false x2.ver x1.ver = true := by kernel_rfl
theorem lt20 : ltV false x2.ver x0.ver = true := by kernel_rfl
theorem lt10 : ltV false x1.ver x0.ver = true := by kernel_rfl
def Sort3End (w : World) (e : Ending) (w' : World) : Prop :=
  ∃ g cap cells rest, e = .returned (.slice (some ⟨g, 0, none⟩) 3 cap) ∧ w.heap.size ≤ g ∧ w'.heap[g]? = some (.cells cells 27 (0, 0)) ∧ cells.toList = Out3 ++ rest ∧ Below w.heap.size w w'
theorem sort3 (b : Nat) (w : World) (hv : Vars w) (h : w.rangeAt b 0 In3.toList) : Calls Tryz.prog 37 #[.slice (some ⟨b, 0, none⟩) 3 3, .bool false, .bool false] w (Sort3End w) := by
  refine (sorted_up [x0, x1, x2] ⟨by decide, by decide⟩ _ w hv (at3 h)).mono ?_
  rintro e w' ⟨x, d', rfl, hp, hs, ho, hb⟩
  have hd := Awk.three (swo_ltV false) lt21 lt20 lt10 hp hs
  subst hd
  obtain ⟨g, cap, cells, rest, rfl, hg, hc, hl, _⟩ := row_block ho (by show 0 < 3; omega)
  exact ⟨g, cap, cells, rest, rfl, hg, hc, hl, hb⟩
set_option maxRecDepth 20000 in
set_option maxHeartbeats 4000000 in
theorem awake (w : World) (hv : Vars w) : Calls Tryz.prog 25 #[] w fun e w' => e = .returned (.bool true) ∧ Below w.heap.size w w' := by
  have HO := Lib.hid (fun W hb => of123 W (Vars.below (w := w) hv hb))
  have HS := Lib.hid (fun b W hb h => sort3 b W (Vars.below (w := w) hv hb) h)
  have HT := Lib.hid (fun W hb => matches120 W (Vars.below (w := w) hv hb))
  have HM := Aside0.mk (Blks.start w)
  generalize (⟨#[61]⟩ : ByteArray) ++ semB v123 = cs at HO
  unfold told at HO
  clear hv
  go_enter Tryz.func25, Tryz.ntmps25
  go_wp2_with (first
    | (go_at_call 35; ((with_reducible refine (HO.out _ (Blks.bel (by repeat (first | exact HM.out | apply Blks.drewN | apply Blks.drew | apply Blks.other)))).mono ?_); rintro e w1 ⟨rfl, hb⟩; have HN := Aside0.mk (Blks.call (by repeat (first | exact HM.out | apply Blks.drewN | apply Blks.drew | apply Blks.other)) hb); clear HM hb; have HM := HN; clear HN))
    | (go_at_call 37; ((refine (HS.out _ _ (Blks.bel (by repeat (first | exact HM.out | apply Blks.drewN | apply Blks.drew | apply Blks.other))) (Blks.range HM.out (b := bq) (o := 0) (n := 9) (by repeat (first | exact List.Mem.head _ | apply List.Mem.tail)) (by repeat (first | exact Rd.nil | apply Rd.here | apply Rd.skip)))).mono ?_); rintro e w3 ⟨g3, cap3, cells3, rest3, rfl, hg, hc, hl, hb⟩; unfold Out3 at hl; have HN := Aside0.mk (Blks.add (by repeat (first | exact HM.out | apply Blks.drewN | apply Blks.drew | apply Blks.other)) hb hg hc hl); clear HM hb hg hc hl; have HM := HN; clear HN; refine Hid.out ?_))
    | (refine bk_load1 (by rfl) (by rfl) (by rfl) (by repeat (first | exact HM.out | apply Blks.drewN | apply Blks.drew | apply Blks.other)) (by repeat (first | exact List.Mem.head _ | apply List.Mem.tail)) (by first | exact oneS | exact oneSl | exact oneB | exact oneI) (by repeat (first | exact Rd.nil | apply Rd.here | apply Rd.skip)) ?_) | (refine bk_load (by rfl) (by rfl) (by rfl) (by repeat (first | exact HM.out | apply Blks.drewN | apply Blks.drew | apply Blks.other)) (by repeat (first | exact List.Mem.head _ | apply List.Mem.tail)) (by first | exact rowV | exact rowP | exact rowR | exact rowC | exact rowIV | exact rowTold) (by repeat (first | exact Rd.nil | apply Rd.here | apply Rd.skip)) ?_) | (refine bk_alloc (by rfl) (by rfl) (by repeat (first | exact HM.out | apply Blks.drewN | apply Blks.drew | apply Blks.other)) (by first | exact zeroTold) ?_; intro bt _ HN; clear HM; have HM := Aside0.mk HN; clear HN) | (refine bk_store1 (by rfl) (by rfl) (by rfl) (by rfl) (by first | exact (rfl : _ = Value.bool _) | exact (rfl : _ = Value.int _ _) | exact (rfl : _ = Value.string _) | exact (rfl : _ = Value.slice _ _ _) | exact (rfl : _ = Value.iface _ _) | exact (rfl : _ = Value.nilIface) | exact (rfl : _ = Value.pointer _)) (by repeat (first | exact HM.out | apply Blks.drewN | apply Blks.drew | apply Blks.other)) (by first | exact oneSl | exact oneB) (by rfl) (by repeat (first | exact List.Mem.head _ | apply List.Mem.tail)) (by repeat (first | exact Wr.nil | apply Wr.here | apply Wr.skip)) (by repeat (first | exact Up.here | apply Up.skip)) ?_; intro _ HN; clear HM; have HM := Aside0.mk HN; clear HN) | (refine bk_store (by rfl) (by rfl) (by rfl) (by rfl) (by rfl) (by repeat (first | exact HM.out | apply Blks.drewN | apply Blks.drew | apply Blks.other)) (by first | exact rowTold) (by rfl) (by simp [Value.oneCell']) (by repeat (first | exact List.Mem.head _ | apply List.Mem.tail)) (by repeat (first | exact Wr.nil | apply Wr.here | apply Wr.skip)) (by repeat (first | exact Up.here | apply Up.skip)) ?_; intro _ HN; clear HM; have HM := Aside0.mk HN; clear HN) | (refine bk_slice (by rfl) (by rfl) (by repeat (first | exact HM.out | apply Blks.drewN | apply Blks.drew | apply Blks.other)) Tryz.underlying23 (by rw [Array.toList_map]; exact bs_v3) ?_; intro bq _ HN; clear HM; have HM := Aside0.mk HN; clear HN))
  have r8 := HM.out.range (b := bt) (o := 8) (n := 1) (by repeat (first | exact List.Mem.head _ | apply List.Mem.tail)) (by repeat (first | exact Rd.nil | apply Rd.here | apply Rd.skip)) 0 _ rfl
  have r0 := HM.out.range (b := bt) (o := 0) (n := 1) (by repeat (first | exact List.Mem.head _ | apply List.Mem.tail)) (by repeat (first | exact Rd.nil | apply Rd.here | apply Rd.skip)) 0 _ rfl
  have r1 := HM.out.range (b := bt) (o := 1) (n := 1) (by repeat (first | exact List.Mem.head _ | apply List.Mem.tail)) (by repeat (first | exact Rd.nil | apply Rd.here | apply Rd.skip)) 0 _ rfl
  simp only [Nat.add_zero] at r8 r0 r1
  refine Lib.hid ?_
  go_wp2_with (first
    | (go_at_call 27; ((with_reducible refine (HT.out _ (Blks.bel (by repeat (first | exact HM.out | apply Blks.drewN | apply Blks.drew | apply Blks.other)))).mono ?_); rintro e w4 ⟨rfl, hb⟩; have HN := Aside0.mk (Blks.call (by repeat (first | exact HM.out | apply Blks.drewN | apply Blks.drew | apply Blks.other)) hb); clear HM hb; have HM := HN; clear HN; refine Hid.out ?_)))
  clear r8 r0 r1
  have r1 := HM.out.range (b := g3) (o := 1) (n := 1) (by repeat (first | exact List.Mem.head _ | apply List.Mem.tail)) (by repeat (first | exact Rd.nil | apply Rd.here | apply Rd.skip)) 0 _ rfl
  have r7 := HM.out.range (b := g3) (o := 7) (n := 1) (by repeat (first | exact List.Mem.head _ | apply List.Mem.tail)) (by repeat (first | exact Rd.nil | apply Rd.here | apply Rd.skip)) 0 _ rfl
  simp only [Nat.add_zero] at r1 r7
  refine Lib.hid ?_
  go_wp2_with fail
  go_ret
  exact ⟨rfl, HM.out.bel⟩
end Go.Proofs.YtgoeiflddikihaaGreatDoor.Ver
end
section
namespace Go.Proofs.YtgoeiflddikihaaGreatDoor.Ver
set_option linter.unusedSimpArgs false
set_option linter.unusedVariables false
open Go.RowKit Go.Proofs.YtgoeiflddikihaaGreatDoor.Dig Go.Proofs.YtgoeiflddikihaaGreatDoorW.PrintWords Go.Proofs.YtgoeiflddikihaaGreatDoor.Mem
theorem new_plain {t : ByteArray} (h : qSemB0 t.data.toList = none) : newV t = .plain t := by
  unfold newV; rw [readV_eq, qReadB, h]; rfl
end Go.Proofs.YtgoeiflddikihaaGreatDoor.Ver
end
