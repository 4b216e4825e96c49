/- Merged by program out of: AwakeE, SemL. -/
import Derived.Test.YtgoeiflddikihaaGreatDoorCsgM3
import Derived.Test.YtgoeiflddikihaaGreatDoorCsgM18
import Derived.Test.YtgoeiflddikihaaGreatDoorCsgM2
import Derived.Test.YtgoeiflddikihaaGreatDoorCsgM30
import Derived.Test.YtgoeiflddikihaaGreatDoorCsgM33
import Derived.Test.YtgoeiflddikihaaGreatDoorCsgM25
import Derived.Deep.Cut
import Derived.Deep.CutRange
section
namespace Go.Proofs.YtgoeiflddikihaaGreatDoor.Ver
set_option linter.unusedSimpArgs false
open Go.RowKit Go.Proofs.YtgoeiflddikihaaGreatDoor.Dig Go.Proofs.YtgoeiflddikihaaGreatDoorW.PrintWords Go.Proofs.YtgoeiflddikihaaGreatDoor.Mem Go.Sort Go.Proofs.YtgoeiflddikihaaGreatDoor.Srt
theorem rowTold : RowT Tryz.prog 54 9 := ⟨⟨_, Tryz.underlying54, rfl⟩, by kernel_rfl⟩
theorem zeroTold : (Tryz.prog.info? 54).bind (fun i => i.zero.map (·.cells)) = some zTold := by kernel_rfl
abbrev t123 : ByteArray := ⟨#[118, 49, 46, 50, 46, 51]⟩
abbrev tr : ByteArray := ⟨#[114]⟩
abbrev tdev : ByteArray := ⟨#[100, 101, 118]⟩
abbrev t100 : ByteArray := ⟨#[49, 46, 48, 46, 48]⟩
abbrev t110 : ByteArray := ⟨#[49, 46, 49, 46, 48]⟩
def v123 : SV := ⟨1, 2, 3, ⟨#[]⟩, ⟨#[]⟩, t123⟩
theorem read123 : readV t123 = some (v123, 3) := by kernel_rfl
theorem of123 (w : World) (hv : Vars w) : Calls Tryz.prog 35 #[.agg #[.int .i64 3, .string t123, .string tr]] w fun e w' => e = .returned (told 2 t123 (⟨#[61]⟩ ++ semB v123) tr ⟨#[]⟩ t123 tr t123 true) ∧ Below w.heap.size w w' :=
  of_psem 3 t123 tr (by decide) w hv v123 (readV_ok' (by decide) read123).1 (by decide) (by rw [show (semB v123).size = 5 by kernel_rfl]; omega) tr (by kernel_rfl)
def x0 : VD := ⟨1, tdev, ⟨#[]⟩, by decide⟩
def x1 : VD := ⟨3, t100, ⟨#[]⟩, by decide⟩
def x2 : VD := ⟨3, t110, ⟨#[]⟩, by decide⟩
abbrev In3 : Array Value := #[.int .i64 1, .string tdev, .string ⟨#[]⟩, .int .i64 3, .string t100, .string ⟨#[]⟩, .int .i64 3, .string t110, .string ⟨#[]⟩]
def Out3 : List Value := [.int .i64 3, .string t110, .string ⟨#[]⟩, .int .i64 3, .string t100, .string ⟨#[]⟩, .int .i64 1, .string tdev, .string ⟨#[]⟩]
theorem bs_v3 : Tryz.prog.builtSlice 27 3 [(0, .agg #[.int .i64 1, .string tdev, .string ⟨#[]⟩]), (1, .agg #[.int .i64 3, .string t100, .string ⟨#[]⟩]), (2, .agg #[.int .i64 3, .string t110, .string ⟨#[]⟩])] = some In3 := by kernel_rfl
theorem at3 {w : World} {b : Nat} (h : w.rangeAt b 0 In3.toList) : AtV w (.slice (some ⟨b, 0, none⟩) 3 3) [x0, x1, x2] := by
  refine ⟨⟨some ⟨b, 0, none⟩, 3, rfl, fun _ => ⟨b, 0, rfl, fun i hi => ?_⟩⟩⟩
  have h3 : i < 3 := hi
  rcases i with _ | _ | _ | i
  · exact ⟨h 0 _ rfl, h 1 _ rfl, h 2 _ rfl⟩
  · exact ⟨h 3 _ rfl, h 4 _ rfl, h 5 _ rfl⟩
  · exact ⟨h 6 _ rfl, h 7 _ rfl, h 8 _ rfl⟩
  · omega
theorem lt21 : ltV false x2.ver x1.ver = true := by kernel_rfl
theorem lt20 : ltV false x2.ver x0.ver = true := by kernel_rfl
theorem lt10 : ltV false x1.ver x0.ver = true := by kernel_rfl
def Sort3End (w : World) (e : Ending) (w' : World) : Prop :=
  ∃ g cap cells rest, e = .returned (.slice (some ⟨g, 0, none⟩) 3 cap) ∧ w.heap.size ≤ g ∧ w'.heap[g]? = some (.cells cells 27 (0, 0)) ∧ cells.toList = Out3 ++ rest ∧ Below w.heap.size w w'
theorem sort3 (b : Nat) (w : World) (hv : Vars w) (h : w.rangeAt b 0 In3.toList) : Calls Tryz.prog 37 #[.slice (some ⟨b, 0, none⟩) 3 3, .bool false, .bool false] w (Sort3End w) := by
  refine (sorted_up [x0, x1, x2] ⟨by decide, by decide⟩ _ w hv (at3 h)).mono ?_
  rintro e w' ⟨x, d', rfl, hp, hs, ho, hb⟩
  have hd := Awk.three (swo_ltV false) lt21 lt20 lt10 hp hs
  subst hd
  obtain ⟨g, cap, cells, rest, rfl, hg, hc, hl, _⟩ := row_block ho (by show 0 < 3; omega)
  exact ⟨g, cap, cells, rest, rfl, hg, hc, hl, hb⟩
end Go.Proofs.YtgoeiflddikihaaGreatDoor.Ver
end
section
namespace Go.Proofs.YtgoeiflddikihaaGreatDoor.Ver
set_option linter.unusedSimpArgs false
set_option linter.unusedVariables false
open Go.RowKit Go.Proofs.YtgoeiflddikihaaGreatDoor.Dig Go.Proofs.YtgoeiflddikihaaGreatDoorW.PrintWords Go.Proofs.YtgoeiflddikihaaGreatDoor.Mem
theorem ver3 (t : ByteArray) : verV 3 t ⟨#[]⟩ = .un (newV t) := by
  unfold verV unpV
  rw [if_neg (by decide), if_neg (by decide), if_pos rfl]
  simp
end Go.Proofs.YtgoeiflddikihaaGreatDoor.Ver
end
