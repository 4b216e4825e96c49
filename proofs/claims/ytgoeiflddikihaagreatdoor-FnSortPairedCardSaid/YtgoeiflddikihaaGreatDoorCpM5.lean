/- Merged by program out of: VarsRow, Opens, HeadRow, Mem2. -/
import Derived.Test.YtgoeiflddikihaaGreatDoorCpM3
import Derived.Test.YtgoeiflddikihaaGreatDoorRows
import Derived.Deep.DeepHandedRow
import Derived.Lib.LaidTab
import Derived.Stop.LaidErr
import Derived.MakeChecks
import Derived.ProofKit
import Derived.Test.YtgoeiflddikihaaGreatDoorCpM0
import Derived.ChangeArms
import Derived.DataReads
import Derived.Test.YtgoeiflddikihaaGreatDoorCards
import Derived.Test.YtgoeiflddikihaaGreatDoorCpM4
section
namespace Go.Proofs.YtgoeiflddikihaaGreatDoor.VarsRow
open Go.RowKit Go.Proofs.YtgoeiflddikihaaGreatDoor.Dig
theorem own : ownKnob Tryz.prog.godebug = none := by kernel_rfl
theorem laidOut : laidOutB Tryz.prog = true := by kernel_rfl
def laid5 {H : Type} : List (String × DataW H) := [("math/bits.deBruijn32tab", Rows.laid_math_bits_deBruijn32tab), ("math/bits.deBruijn64tab", Rows.laid_math_bits_deBruijn64tab), ("internal/strconv.uint64pow10", Rows.laid_internal_strconv_uint64pow10), ("strconv.ErrRange", Rows.laid_strconv_ErrRange), ("strconv.ErrSyntax", Rows.laid_strconv_ErrSyntax)]
theorem gPow : Tryz.prog.globalNamed "internal/strconv.uint64pow10" = some 2 := by kernel_rfl
theorem gPowType : (Tryz.prog.globals[2]?).map (·.type) = some 282 := by kernel_rfl
theorem cPow : Tryz.prog.cellsOf 282 = 20 := by kernel_rfl
theorem cU64 : Tryz.prog.cellsOf 46 = 1 := by kernel_rfl
theorem gRng : Tryz.prog.globalNamed "strconv.ErrRange" = some 1 := by kernel_rfl
theorem gSyn : Tryz.prog.globalNamed "strconv.ErrSyntax" = some 0 := by kernel_rfl
theorem gRngType : (Tryz.prog.globals[1]?).map (·.type) = some 166 := by kernel_rfl
theorem gSynType : (Tryz.prog.globals[0]?).map (·.type) = some 166 := by kernel_rfl
theorem powData {H : Type} : (Rows.laid_internal_strconv_uint64pow10 : DataW H) = Lib.tabData .u64 Lib.pow10Tab := by rfl
theorem cErr : Tryz.prog.cellsOf 262 = 1 := by kernel_rfl
theorem cStr : Tryz.prog.cellsOf 9 = 1 := by kernel_rfl
theorem star : "*" ++ "errors.errorString" = "*errors.errorString" := by decide
theorem errName (u : TypeId) (h : Tryz.prog.typeName? 3 u = some "*errors.errorString") : u = 260 :=
  typeName_ptr_named (nm := "errors.errorString") (by rw [star]; kernel_rfl) (by kernel_rfl) (by decide) u (by rw [star]; exact h)
theorem vars_of {W : World} (h : laidMetH Tryz.prog laid5 W) : Vars W := by
  rw [Go.MakeChecks.laidMetH_plain _ _ _ (by kernel_rfl)] at h
  have h3 : laidMet Tryz.prog (("internal/strconv.uint64pow10", Lib.tabData .u64 Lib.pow10Tab) :: [("strconv.ErrRange", Rows.laid_strconv_ErrRange), ("strconv.ErrSyntax", Rows.laid_strconv_ErrSyntax)]) W := by
    have := h.tail.tail
    rw [powData] at this
    exact this
  have h4 := h.tail.tail.tail
  have h5 := h4.tail
  obtain ⟨a1, s1, hv1, _⟩ := laid_sentinel h4 gRng gRngType Tryz.underlying166 errName Tryz.underlying260 Tryz.underlying262 rfl rfl Tryz.underlying9 cErr cStr
  obtain ⟨a2, s2, hv2, _⟩ := laid_sentinel h5 gSyn gSynType Tryz.underlying166 errName Tryz.underlying260 Tryz.underlying262 rfl rfl Tryz.underlying9 cErr cStr
  exact ⟨⟨_, _, hv2⟩, ⟨_, _, hv1⟩, Lib.tabIs_of_head gPow gPowType Tryz.underlying282 Tryz.underlying46 cU64 cPow h3⟩
abbrev synS : ByteArray := { data := #[105, 110, 118, 97, 108, 105, 100, 32, 115, 121, 110, 116, 97, 120] }
abbrev rngS : ByteArray := { data := #[118, 97, 108, 117, 101, 32, 111, 117, 116, 32, 111, 102, 32, 114, 97, 110, 103, 101] }
noncomputable def low : Nat := (World.holding Tryz.prog default ⟨#[], #[], []⟩).heap.size
def cellsOfData : DataW Unit → Array Value
  | .agg l => (l.map fun | .lit (.int k n) => Value.int k n | _ => .nilFunc).toArray
  | _ => #[]
def setTo (cs : Array Value) : Obj → Obj
  | .cells _ t frozen => .cells cs t frozen
  | o => o
noncomputable def laidWorld (os : Os) : World :=
  let w0 := World.holding Tryz.prog os ⟨#[.cells #[.string synS] 262, .cells #[.string rngS] 262], #[], []⟩
  { w0 with heap := ((((w0.heap.modify 0 (setTo #[.iface 260 (.pointer (some ⟨low, 0, none⟩))])).modify 1 (setTo #[.iface 260 (.pointer (some ⟨low + 1, 0, none⟩))])).modify 2 (setTo (cellsOfData Rows.laid_internal_strconv_uint64pow10))).modify 3 (setTo (cellsOfData Rows.laid_math_bits_deBruijn32tab))).modify 4 (setTo (cellsOfData Rows.laid_math_bits_deBruijn64tab)) }
theorem laid_met (os : Os) (args : Array Value) : laidMet Tryz.prog laid5 ((laidWorld os).forCall (fun _ _ => 0) ⟨#[], args, []⟩).memory :=
  laidMet_of_run' 8 (by kernel_rfl) (by kernel_rfl)
end Go.Proofs.YtgoeiflddikihaaGreatDoor.VarsRow
end
section
namespace Go.Proofs.YtgoeiflddikihaaGreatDoor.Opens
open Go.RowKit Go.Proofs.YtgoeiflddikihaaGreatDoorW.PrintWords
def Opens {α : Type} (P : Program) (t : TypeId) (d : Kd α) (good : α → Prop) : Prop :=
  ∀ (H : Type) (enc : TypeId × Value → H) (w : World) (base : Nat) (spare : Nat → Bool) (held : Bool) (fuel : Nat) (cs : List Value) (x : DataW H × List MemPlace),
    DataW.trod enc P w base spare held fuel t cs = some x → ∃ a, d.K w a cs ∧ good a
theorem opens_int {P : Program} {t : TypeId} {k : IntKind} (ht : P.underlying t = some (.int k)) : Opens P t (Kd.int k) (fun n => (Lit.int k n).wf = true) := by
  intro H enc w base spare held fuel cs x h
  obtain ⟨n, rfl, _, hn⟩ := DataW.trod_int ht h
  exact ⟨n, rfl, hn⟩
theorem opens_string {P : Program} {t : TypeId} (ht : P.underlying t = some .string) : Opens P t Kd.string (fun s => s.size ≤ maxLen) := by
  intro H enc w base spare held fuel cs x h
  obtain ⟨n, rfl, _, hn⟩ := DataW.trod_string ht h
  exact ⟨n, rfl, hn⟩
def OpensFrom {α : Type} (P : Program) (off : Nat) (fs : List Field) (d : Kd α) (good : α → Prop) : Prop :=
  ∀ (H : Type) (enc : TypeId × Value → H) (w : World) (base : Nat) (spare : Nat → Bool) (held : Bool) (fuel : Nat) (cs : List Value), off + d.sz = cs.length →
    (∀ f ∈ fs, ∃ y, DataW.trod enc P w base spare held fuel f.type ((cs.drop f.offset).take (P.cellsOf f.type)) = some y) → ∃ a, d.K w a (cs.drop off) ∧ good a
theorem from_last {α : Type} {P : Program} {off : Nat} {f : Field} {d : Kd α} {good : α → Prop} (h : Opens P f.type d good) (ho : f.offset = off) (hs : P.cellsOf f.type = d.sz) : OpensFrom P off [f] d good := by
  intro H enc w base spare held fuel cs hl hf
  obtain ⟨y, hy⟩ := hf f (by simp)
  rw [ho, hs, List.take_of_length_le (by rw [List.length_drop]; omega)] at hy
  exact h H enc w base spare held fuel _ y hy
theorem from_cons {α β : Type} {P : Program} {off : Nat} {f : Field} {fs : List Field} {d : Kd α} {e : Kd β} {good : α → Prop} {good' : β → Prop} (h : Opens P f.type d good) (ho : f.offset = off) (hs : P.cellsOf f.type = d.sz)
    (h' : OpensFrom P (off + d.sz) fs e good') : OpensFrom P off (f :: fs) (Kd.pair d e) (fun a => good a.1 ∧ good' a.2) := by
  intro H enc w base spare held fuel cs hl hf
  have hl' : off + (d.sz + e.sz) = cs.length := hl
  obtain ⟨y, hy⟩ := hf f (by simp)
  rw [ho, hs] at hy
  obtain ⟨a, ha, ga⟩ := h H enc w base spare held fuel _ y hy
  obtain ⟨b, hb, gb⟩ := h' H enc w base spare held fuel cs (by omega) (fun g hg => hf g (by simp [hg]))
  refine ⟨(a, b), ⟨_, _, ?_, ha, hb⟩, ga, gb⟩
  rw [← List.drop_drop, List.take_append_drop]
theorem opens_struct {α : Type} {P : Program} {t : TypeId} {fs : Array Field} {d : Kd α} {good : α → Prop} (ht : P.underlying t = some (.struct fs)) (hs : P.cellsOf t = d.sz) (h : OpensFrom P 0 fs.toList d good) : Opens P t d good := by
  intro H enc w base spare held fuel cs x hx
  obtain ⟨xs, n, rfl, _, hl, hxs, hf⟩ := DataW.trod_struct ht hx
  refine h H enc w base spare held n cs (by omega) (fun f hf' => ?_)
  obtain ⟨i, hi, rfl⟩ := List.mem_iff_getElem.1 hf'
  have hi' : i < fs.size := by simpa using hi
  have hg := hf i fs[i] (Array.getElem?_eq_getElem hi')
  rw [List.getElem?_eq_getElem (by omega)] at hg
  exact ⟨_, by simpa using hg⟩
theorem opens_iso {α β : Type} {P : Program} {t : TypeId} {d : Kd α} {good : α → Prop} (f : β → α) (g : α → β) (hfg : ∀ a, f (g a) = a) (h : Opens P t d good) : Opens P t (Kd.iso d f) (fun b => good (f b)) := by
  intro H enc w base spare held fuel cs x hx
  obtain ⟨a, ha, ga⟩ := h H enc w base spare held fuel cs x hx
  refine ⟨g a, ?_, by show good (f (g a)); rw [hfg]; exact ga⟩
  show d.K w (f (g a)) cs
  rw [hfg]; exact ha
theorem opens_imp {α : Type} {P : Program} {t : TypeId} {d : Kd α} {good good' : α → Prop} (h : Opens P t d good) (hg : ∀ a, good a → good' a) : Opens P t d good' := by
  intro H enc w base spare held fuel cs x hx
  obtain ⟨a, ha, ga⟩ := h H enc w base spare held fuel cs x hx
  exact ⟨a, ha, hg a ga⟩
theorem choose_list {α : Type} (R : Nat → α → Prop) : ∀ n, (∀ i, i < n → ∃ a, R i a) → ∃ l : List α, l.length = n ∧ ∀ i a, l[i]? = some a → R i a
  | 0, _ => ⟨[], rfl, fun i a h => by simp at h⟩
  | n + 1, h => by
    obtain ⟨l, hl, hr⟩ := choose_list R n (fun i hi => h i (by omega))
    obtain ⟨a, ha⟩ := h n (by omega)
    refine ⟨l ++ [a], by simp [hl], fun i b hb => ?_⟩
    rcases Nat.lt_or_ge i n with hi | hi
    · rw [List.getElem?_append_left (by omega)] at hb; exact hr i b hb
    · have hin : i = n := by
        have := (List.getElem?_eq_some_iff.1 hb).1
        simp at this; omega
      subst hin
      rw [← hl] at hb
      simp at hb
      subst hb
      exact ha
theorem opens_slice {α : Type} {P : Program} {t e : TypeId} {d : Kd α} {good : α → Prop} (ht : P.underlying t = some (.slice e)) (hs : P.cellsOf e = d.sz) (h : Opens P e d good) :
    Opens P t (Kd.slice e d) (fun l => ∀ a ∈ l, good a) := by
  intro H enc w base spare held fuel cs x hx
  rcases DataW.trod_slice ht hx with ⟨rfl, _⟩ | ⟨a, len, cap, elems, rest, n, rfl, rfl, _, hb, hl, hm, hlen, hel, _, _⟩
  · exact ⟨[], ⟨none, 0, rfl, Nat.le_refl _, Kd.C_nil d w⟩, fun _ h => by cases h⟩
  · have each : ∀ i, i < len → ∃ a', (∃ c, c.length = d.sz ∧ d.K w a' c ∧ ∀ j u, c[j]? = some u → w.cell? (a.add (i * d.sz + j)) = some u) ∧ good a' := by
      intro i hi
      have h1 := hel i hi
      rw [List.getElem?_eq_getElem (by omega)] at h1
      obtain ⟨c, hc, hy⟩ := Option.bind_eq_some_iff.1 h1
      rw [hs] at hc
      obtain ⟨_, hcl, hat⟩ := World.cells?_some hc
      obtain ⟨a', ha', ga⟩ := h H enc w base spare held n c _ hy
      refine ⟨a', ⟨c, hcl, ha', fun j u hu => ?_⟩, ga⟩
      have hj : j < d.sz := by have := (List.getElem?_eq_some_iff.1 hu).1; omega
      rw [← hu, ← hat j hj]
      congr 1
      unfold Addr.add
      repeat' split
      all_goals simp_all <;> omega
    obtain ⟨l, hll, hr⟩ := choose_list _ len each
    refine ⟨l, ⟨some a, cap, by rw [hll], by omega, ⟨rfl, by simp only [maxLen] at hm; omega, fun _ => ⟨a, rfl, fun j p hp => ?_⟩⟩⟩, fun b hb => ?_⟩
    · obtain ⟨⟨c, h1, h2, h3⟩, _⟩ := hr j p hp
      exact ⟨c, h1, h2, h3⟩
    · obtain ⟨i, hi, rfl⟩ := List.mem_iff_getElem.1 hb
      exact (hr i _ (List.getElem?_eq_getElem hi)).2
end Go.Proofs.YtgoeiflddikihaaGreatDoor.Opens
end
section
namespace Go.Proofs.YtgoeiflddikihaaGreatDoor.HeadRow
open Go.Proofs.YtgoeiflddikihaaGreatDoorW.Head
set_option maxRecDepth 100000
def sum : List Char := ['4', 'b', '7', '0', 'e', 'b', '2', '2', 'f', '5', 'a', '0', '2', 'e', '1', 'd', '0', 'd', 'e', '1', '2', '6', 'a', 'e', '3', 'c', 'b', 'c', '2', 'f', '2', '0', '8', '6', 'a', '1', '6', 'd', '4', '4', '4', '1', 'a', 'a', '3', '7', '0', '5', 'b', '2', 'e', '5', '4', 'c', 'f', 'f', 'b', '6', '6', '6', '0', 'a', '3', '2']
def rest : List Char := ['a', 't', ' ', 'p', 'u', 'b', '-', 'c', 'a', 'r', 'a', 'v', 'a', 'n', 's', 'e', 'r', 'a', 'i', '/', 'l', 'a', 'w', 's', '.', 'F', 'n', 'I', 'n', 't', 'e', 'r', 's', 'e', 'c', 't', 'M', 'a', 'n', 'y', ' ', 'p', 'u', 'b', '-', 'c', 'a', 'r', 'a', 'v', 'a', 'n', 's', 'e', 'r', 'a', 'i', '/', 'l', 'a', 'w', 's', '.', 'F', 'n', 'M', 'a', 't', 'c', 'h', 'e', 's', ' ', 'p', 'u', 'b', '-', 'c', 'a', 'r', 'a', 'v', 'a', 'n', 's', 'e', 'r', 'a', 'i', '/', 'l', 'a', 'w', 's', '.', 'F', 'n', 'S', 'e', 'm', 'v', 'e', 'r', ' ', 'p', 'u', 'b', '-', 'c', 'a', 'r', 'a', 'v', 'a', 'n', 's', 'e', 'r', 'a', 'i', '/', 'l', 'a', 'w', 's', '.', 'F', 'n', 'S', 'e', 'm', 'v', 'e', 'r', 'O', 'r', 'd', 'e', 'r', ' ', 'p', 'u', 'b', '-', 'c', 'a', 'r', 'a', 'v', 'a', 'n', 's', 'e', 'r', 'a', 'i', '/', 'l', 'a', 'w', 's', '.', 'F', 'n', 'S', 'i', 'g', 'n', ' ', 'p', 'u', 'b', '-', 'c', 'a', 'r', 'a', 'v', 'a', 'n', 's', 'e', 'r', 'a', 'i', '/', 'l', 'a', 'w', 's', '.', 'F', 'n', 'S', 'o', 'r', 't', 'A', 'g', 'a', 'i', 'n', ' ', 'p', 'u', 'b', '-', 'c', 'a', 'r', 'a', 'v', 'a', 'n', 's', 'e', 'r', 'a', 'i', '/', 'l', 'a', 'w', 's', '.', 'F', 'n', 'S', 'o', 'r', 't', 'D', 'o', 'w', 'n', 'g', 'r', 'a', 'd', 'e', ' ', 'p', 'u', 'b', '-', 'c', 'a', 'r', 'a', 'v', 'a', 'n', 's', 'e', 'r', 'a', 'i', '/', 'l', 'a', 'w', 's', '.', 'F', 'n', 'S', 'o', 'r', 't', 'P', 'a', 'i', 'r', 'e', 'd', ' ', 'p', 'u', 'b', '-', 'c', 'a', 'r', 'a', 'v', 'a', 'n', 's', 'e', 'r', 'a', 'i', '/', 'l', 'a', 'w', 's', '.', 'F', 'n', 'S', 'o', 'r', 't', 'U', 'p', 'g', 'r', 'a', 'd', 'e', ' ', 'p', 'u', 'b', '-', 'c', 'a', 'r', 'a', 'v', 'a', 'n', 's', 'e', 'r', 'a', 'i', '/', 'l', 'a', 'w', 's', '.', 'F', 'n', 'V', 'e', 'r', 's', 'i', 'o', 'n', ' ', 'p', 'u', 'b', '-', 'c', 'a', 'r', 'a', 'v', 'a', 'n', 's', 'e', 'r', 'a', 'i', '/', 'l', 'a', 'w', 's', '.', 'F', 'n', 'I', 'd', 'e', 'n', 't', 'L', 'e', 's', 's', ' ', 'p', 'u', 'b', '-', 'c', 'a', 'r', 'a', 'v', 'a', 'n', 's', 'e', 'r', 'a', 'i', '/', 'l', 'a', 'w', 's', '.', 'F', 'n', 'I', 'd', 'e', 'n', 't', 'T', 'e', 'x', 't', ' ', 'p', 'u', 'b', '-', 'c', 'a', 'r', 'a', 'v', 'a', 'n', 's', 'e', 'r', 'a', 'i', '/', 'l', 'a', 'w', 's', '.', 'F', 'n', 'B', 'l', 'a', 'n', 'k', 's', ' ', 'p', 'u', 'b', '-', 'c', 'a', 'r', 'a', 'v', 'a', 'n', 's', 'e', 'r', 'a', 'i', '/', 'l', 'a', 'w', 's', '.', 'F', 'n', 'C', 'a', 'r', 'e', 't', ' ', 'p', 'u', 'b', '-', 'c', 'a', 'r', 'a', 'v', 'a', 'n', 's', 'e', 'r', 'a', 'i', '/', 'l', 'a', 'w', 's', '.', 'F', 'n', 'C', 'o', 'n', 's', 't', 'r', 'a', 'i', 'n', 't', ' ', 'p', 'u', 'b', '-', 'c', 'a', 'r', 'a', 'v', 'a', 'n', 's', 'e', 'r', 'a', 'i', '/', 'l', 'a', 'w', 's', '.', 'F', 'n', 'T', 'e', 'x', 't', 'B', 'a', 'c', 'k', ' ', 'p', 'u', 'b', '-', 'c', 'a', 'r', 'a', 'v', 'a', 'n', 's', 'e', 'r', 'a', 'i', '/', 'l', 'a', 'w', 's', '.', 'F', 'n', 'I', 'n', 't', 'e', 'r', 's', 'e', 'c', 't', ' ', 'p', 'u', 'b', '-', 'c', 'a', 'r', 'a', 'v', 'a', 'n', 's', 'e', 'r', 'a', 'i', '/', 'l', 'a', 'w', 's', '.', 'F', 'n', 'I', 'n', 't', 'e', 'r', 's', 'e', 'c', 't', 'S', 'e', 't', ' ', 'p', 'u', 'b', '-', 'c', 'a', 'r', 'a', 'v', 'a', 'n', 's', 'e', 'r', 'a', 'i', '/', 'l', 'a', 'w', 's', '.', 'F', 'n', 'M', 'a', 't', 'c', 'h', 'e', 's', 'A', 'n', 'y', ' ', 'p', 'u', 'b', '-', 'c', 'a', 'r', 'a', 'v', 'a', 'n', 's', 'e', 'r', 'a', 'i', '/', 'l', 'a', 'w', 's', '.', 'F', 'n', 'I', 'n', 't', 'e', 'r', 's', 'e', 'c', 't', 'A', 'n', 'y']
theorem order : Tryz.prog.initOrder.toList = "harness".toList ++ ' ' :: (sum ++ ' ' :: ("cut".toList ++ ' ' :: rest)) := by
  show String.toList "harness 4b70eb22f5a02e1d0de126ae3cbc2f2086a16d4441aa3705b2e54cffb6660a32 cut at pub-caravanserai/laws.FnIntersectMany pub-caravanserai/laws.FnMatches pub-caravanserai/laws.FnSemver pub-caravanserai/laws.FnSemverOrder pub-caravanserai/laws.FnSign pub-caravanserai/laws.FnSortAgain pub-caravanserai/laws.FnSortDowngrade pub-caravanserai/laws.FnSortPaired pub-caravanserai/laws.FnSortUpgrade pub-caravanserai/laws.FnVersion pub-caravanserai/laws.FnIdentLess pub-caravanserai/laws.FnIdentText pub-caravanserai/laws.FnBlanks pub-caravanserai/laws.FnCaret pub-caravanserai/laws.FnConstraint pub-caravanserai/laws.FnTextBack pub-caravanserai/laws.FnIntersect pub-caravanserai/laws.FnIntersectSet pub-caravanserai/laws.FnMatchesAny pub-caravanserai/laws.FnIntersectAny" = _
  have : String.toList "harness 4b70eb22f5a02e1d0de126ae3cbc2f2086a16d4441aa3705b2e54cffb6660a32 cut at pub-caravanserai/laws.FnIntersectMany pub-caravanserai/laws.FnMatches pub-caravanserai/laws.FnSemver pub-caravanserai/laws.FnSemverOrder pub-caravanserai/laws.FnSign pub-caravanserai/laws.FnSortAgain pub-caravanserai/laws.FnSortDowngrade pub-caravanserai/laws.FnSortPaired pub-caravanserai/laws.FnSortUpgrade pub-caravanserai/laws.FnVersion pub-caravanserai/laws.FnIdentLess pub-caravanserai/laws.FnIdentText pub-caravanserai/laws.FnBlanks pub-caravanserai/laws.FnCaret pub-caravanserai/laws.FnConstraint pub-caravanserai/laws.FnTextBack pub-caravanserai/laws.FnIntersect pub-caravanserai/laws.FnIntersectSet pub-caravanserai/laws.FnMatchesAny pub-caravanserai/laws.FnIntersectAny" = ['h', 'a', 'r', 'n', 'e', 's', 's', ' ', '4', 'b', '7', '0', 'e', 'b', '2', '2', 'f', '5', 'a', '0', '2', 'e', '1', 'd', '0', 'd', 'e', '1', '2', '6', 'a', 'e', '3', 'c', 'b', 'c', '2', 'f', '2', '0', '8', '6', 'a', '1', '6', 'd', '4', '4', '4', '1', 'a', 'a', '3', '7', '0', '5', 'b', '2', 'e', '5', '4', 'c', 'f', 'f', 'b', '6', '6', '6', '0', 'a', '3', '2', ' ', 'c', 'u', 't', ' ', 'a', 't', ' ', 'p', 'u', 'b', '-', 'c', 'a', 'r', 'a', 'v', 'a', 'n', 's', 'e', 'r', 'a', 'i', '/', 'l', 'a', 'w', 's', '.', 'F', 'n', 'I', 'n', 't', 'e', 'r', 's', 'e', 'c', 't', 'M', 'a', 'n', 'y', ' ', 'p', 'u', 'b', '-', 'c', 'a', 'r', 'a', 'v', 'a', 'n', 's', 'e', 'r', 'a', 'i', '/', 'l', 'a', 'w', 's', '.', 'F', 'n', 'M', 'a', 't', 'c', 'h', 'e', 's', ' ', 'p', 'u', 'b', '-', 'c', 'a', 'r', 'a', 'v', 'a', 'n', 's', 'e', 'r', 'a', 'i', '/', 'l', 'a', 'w', 's', '.', 'F', 'n', 'S', 'e', 'm', 'v', 'e', 'r', ' ', 'p', 'u', 'b', '-', 'c', 'a', 'r', 'a', 'v', 'a', 'n', 's', 'e', 'r', 'a', 'i', '/', 'l', 'a', 'w', 's', '.', 'F', 'n', 'S', 'e', 'm', 'v', 'e', 'r', 'O', 'r', 'd', 'e', 'r', ' ', 'p', 'u', 'b', '-', 'c', 'a', 'r', 'a', 'v', 'a', 'n', 's', 'e', 'r', 'a', 'i', '/', 'l', 'a', 'w', 's', '.', 'F', 'n', 'S', 'i', 'g', 'n', ' ', 'p', 'u', 'b', '-', 'c', 'a', 'r', 'a', 'v', 'a', 'n', 's', 'e', 'r', 'a', 'i', '/', 'l', 'a', 'w', 's', '.', 'F', 'n', 'S', 'o', 'r', 't', 'A', 'g', 'a', 'i', 'n', ' ', 'p', 'u', 'b', '-', 'c', 'a', 'r', 'a', 'v', 'a', 'n', 's', 'e', 'r', 'a', 'i', '/', 'l', 'a', 'w', 's', '.', 'F', 'n', 'S', 'o', 'r', 't', 'D', 'o', 'w', 'n', 'g', 'r', 'a', 'd', 'e', ' ', 'p', 'u', 'b', '-', 'c', 'a', 'r', 'a', 'v', 'a', 'n', 's', 'e', 'r', 'a', 'i', '/', 'l', 'a', 'w', 's', '.', 'F', 'n', 'S', 'o', 'r', 't', 'P', 'a', 'i', 'r', 'e', 'd', ' ', 'p', 'u', 'b', '-', 'c', 'a', 'r', 'a', 'v', 'a', 'n', 's', 'e', 'r', 'a', 'i', '/', 'l', 'a', 'w', 's', '.', 'F', 'n', 'S', 'o', 'r', 't', 'U', 'p', 'g', 'r', 'a', 'd', 'e', ' ', 'p', 'u', 'b', '-', 'c', 'a', 'r', 'a', 'v', 'a', 'n', 's', 'e', 'r', 'a', 'i', '/', 'l', 'a', 'w', 's', '.', 'F', 'n', 'V', 'e', 'r', 's', 'i', 'o', 'n', ' ', 'p', 'u', 'b', '-', 'c', 'a', 'r', 'a', 'v', 'a', 'n', 's', 'e', 'r', 'a', 'i', '/', 'l', 'a', 'w', 's', '.', 'F', 'n', 'I', 'd', 'e', 'n', 't', 'L', 'e', 's', 's', ' ', 'p', 'u', 'b', '-', 'c', 'a', 'r', 'a', 'v', 'a', 'n', 's', 'e', 'r', 'a', 'i', '/', 'l', 'a', 'w', 's', '.', 'F', 'n', 'I', 'd', 'e', 'n', 't', 'T', 'e', 'x', 't', ' ', 'p', 'u', 'b', '-', 'c', 'a', 'r', 'a', 'v', 'a', 'n', 's', 'e', 'r', 'a', 'i', '/', 'l', 'a', 'w', 's', '.', 'F', 'n', 'B', 'l', 'a', 'n', 'k', 's', ' ', 'p', 'u', 'b', '-', 'c', 'a', 'r', 'a', 'v', 'a', 'n', 's', 'e', 'r', 'a', 'i', '/', 'l', 'a', 'w', 's', '.', 'F', 'n', 'C', 'a', 'r', 'e', 't', ' ', 'p', 'u', 'b', '-', 'c', 'a', 'r', 'a', 'v', 'a', 'n', 's', 'e', 'r', 'a', 'i', '/', 'l', 'a', 'w', 's', '.', 'F', 'n', 'C', 'o', 'n', 's', 't', 'r', 'a', 'i', 'n', 't', ' ', 'p', 'u', 'b', '-', 'c', 'a', 'r', 'a', 'v', 'a', 'n', 's', 'e', 'r', 'a', 'i', '/', 'l', 'a', 'w', 's', '.', 'F', 'n', 'T', 'e', 'x', 't', 'B', 'a', 'c', 'k', ' ', 'p', 'u', 'b', '-', 'c', 'a', 'r', 'a', 'v', 'a', 'n', 's', 'e', 'r', 'a', 'i', '/', 'l', 'a', 'w', 's', '.', 'F', 'n', 'I', 'n', 't', 'e', 'r', 's', 'e', 'c', 't', ' ', 'p', 'u', 'b', '-', 'c', 'a', 'r', 'a', 'v', 'a', 'n', 's', 'e', 'r', 'a', 'i', '/', 'l', 'a', 'w', 's', '.', 'F', 'n', 'I', 'n', 't', 'e', 'r', 's', 'e', 'c', 't', 'S', 'e', 't', ' ', 'p', 'u', 'b', '-', 'c', 'a', 'r', 'a', 'v', 'a', 'n', 's', 'e', 'r', 'a', 'i', '/', 'l', 'a', 'w', 's', '.', 'F', 'n', 'M', 'a', 't', 'c', 'h', 'e', 's', 'A', 'n', 'y', ' ', 'p', 'u', 'b', '-', 'c', 'a', 'r', 'a', 'v', 'a', 'n', 's', 'e', 'r', 'a', 'i', '/', 'l', 'a', 'w', 's', '.', 'F', 'n', 'I', 'n', 't', 'e', 'r', 's', 'e', 'c', 't', 'A', 'n', 'y'] := String.toList_ofList
  rw [this]
  decide
theorem cut : Cut Tryz.prog sum := cut_of order (by decide)
theorem laysLater : Tryz.prog.laysLater = false := by kernel_rfl
theorem bearsReflect : Tryz.prog.bearsReflect = false := by kernel_rfl
theorem doorFits : Tryz.prog.doorFits [] = true := by kernel_rfl
theorem enter : Tryz.prog.mayEnter = true := cut.enter laysLater bearsReflect doorFits
theorem final : Tryz.prog.liftsFinal = false := cut.final
theorem make : Tryz.prog.make = some .cut := cut.make
theorem main : Tryz.prog.mainIs = some (true, sum) := cut.main
theorem laidOut : laidOutB Tryz.prog = true := by kernel_rfl
theorem mapsRowed : mapsRowed Tryz.prog = true := by kernel_rfl
theorem stops : (Tryz.prog.stops == []) = true := by kernel_rfl
theorem stopKnobs : (Tryz.prog.stopKnobs == []) = true := by kernel_rfl
theorem stopsHeard : Tryz.prog.stopsHeard = true := by kernel_rfl
theorem looks : true = Tryz.prog.looks [] := by kernel_rfl
theorem own : ownKnob Tryz.prog.godebug = none := by kernel_rfl
end Go.Proofs.YtgoeiflddikihaaGreatDoor.HeadRow
end
section
namespace Go.Proofs.YtgoeiflddikihaaGreatDoor.Mem
open Go.RowKit Go.Proofs.YtgoeiflddikihaaGreatDoorW.PrintWords
theorem Blks.add {w0 w w1 : World} {L : List Blk} (h : Blks w0 w L) (hb : Below w.heap.size w w1) {g : Nat} (hg : w.heap.size ≤ g) {cs : Array Value} {t : TypeId} (hc : w1.heap[g]? = some (.cells cs t (0, 0))) {l : List Value} (hl : cs.toList = l) : Blks w0 w1 ((g, l, t) :: L) := by
  have h1 := h.call hb
  subst hl
  refine ⟨h1.bel, ?_, ?_, ?_⟩
  · intro x hx
    rcases List.mem_cons.1 hx with rfl | hx
    · exact hc
    · exact h1.has x hx
  · intro x hx
    rcases List.mem_cons.1 hx with rfl | hx
    · exact Nat.le_trans h.bel.size hg
    · exact h1.new x hx
  · rw [List.map_cons, List.nodup_cons]
    refine ⟨?_, h1.nd⟩
    intro hm
    obtain ⟨x, hx, e⟩ := List.mem_map.1 hm
    have := hlt (h.has x hx)
    simp only at e
    omega
structure RowF (n cap size : Nat) (xs rest : List Value) : Prop where
  len : xs.length = n * size
  le : n ≤ cap
  most : cap ≤ maxLen
  all : (xs ++ rest).length = cap * size
theorem row_block {w : World} {base n size : Nat} {e : TypeId} {v : Value} {xs : List Value} (h : w.ownsRow base e size v n xs) (hp : 0 < n) :
    ∃ g cap cells rest, v = .slice (some ⟨g, 0, none⟩) n cap ∧ base ≤ g ∧ w.heap[g]? = some (.cells cells e (0, 0)) ∧ cells.toList = xs ++ rest ∧ RowF n cap size xs rest := by
  obtain ⟨hl, h⟩ := h
  rcases h with ⟨_, rfl⟩ | ⟨g, cap, cur, rfl, hb, hc, h1, h2, h3, ht⟩
  · omega
  · have e1 : cur.toList = xs ++ cur.toList.drop (n * size) := by rw [← ht, List.take_append_drop]
    exact ⟨g, cap, cur, cur.toList.drop (n * size), rfl, hb, hc, e1, hl, h1, h2, by rw [← e1, Array.length_toList, h3]⟩
theorem Blks.rowOf {w0 w : World} {L : List Blk} (h : Blks w0 w L) {g n cap size : Nat} {xs rest : List Value} {e : TypeId} (hm : (g, xs ++ rest, e) ∈ L) (hf : RowF n cap size xs rest) : w.ownsRow w0.heap.size e size (.slice (some ⟨g, 0, none⟩) n cap) n xs :=
  ⟨hf.len, Or.inr ⟨g, cap, (xs ++ rest).toArray, rfl, h.new _ hm, h.has _ hm, hf.le, hf.most, by simpa using hf.all, by simp [← hf.len]⟩⟩
theorem Blks.addr {w0 w : World} {L : List Blk} (h : Blks w0 w L) {g : Nat} {xs rest : List Value} {e : TypeId} (hm : (g, xs ++ rest, e) ∈ L) : ∀ (j : Nat) (u : Value), xs[j]? = some u → w.cell? ((⟨g, 0, none⟩ : Addr).add j) = some u := by
  intro j u hu
  rw [Addr.add_mid]
  have := cell_of_row w g (0 + j) (xs ++ rest).toArray e (0, 0) (h.has _ hm)
  rw [this]
  have hj : j < xs.length := (List.getElem?_eq_some_iff.1 hu).1
  simp only [Nat.zero_add, List.getElem?_toArray]
  rw [List.getElem?_append_left hj, hu]
theorem reps_strings {w : World} {base : Nat} {ok : Nat → Prop} {xs : List ByteArray} {inner : List Value} (h : Reps (Kd.string.M w base ok) 1 xs inner) : inner = xs.map Value.string := by
  obtain ⟨h1, h2⟩ := h
  refine List.ext_getElem (by simp [h1]) fun j hj hj' => ?_
  have hx : j < xs.length := by simpa using hj'
  have := h2 j xs[j] (List.getElem?_eq_getElem hx)
  have e : List.take 1 (List.drop (j * 1) inner) = [Value.string xs[j]] := this
  rw [Nat.mul_one, List.drop_eq_getElem_cons hj, List.take_succ_cons] at e
  injection e with e _
  simp [e]
theorem strs_block {w : World} {base : Nat} {ok : Nat → Prop} {e : TypeId} {v : Value} {xs : List ByteArray} (h : Kd.R Kd.string e w base ok v xs) (hp : 0 < xs.length) :
    ∃ g cap cells rest, v = .slice (some ⟨g, 0, none⟩) xs.length cap ∧ base ≤ g ∧ w.heap[g]? = some (.cells cells e (0, 0)) ∧ cells.toList = xs.map Value.string ++ rest := by
  obtain ⟨_, inner, ho, hr⟩ := h
  obtain ⟨g, cap, cells, rest, h1, h2, h3, h4, _⟩ := row_block ho hp
  rw [reps_strings hr] at h4
  exact ⟨g, cap, cells, rest, h1, h2, h3, h4⟩
end Go.Proofs.YtgoeiflddikihaaGreatDoor.Mem
end
