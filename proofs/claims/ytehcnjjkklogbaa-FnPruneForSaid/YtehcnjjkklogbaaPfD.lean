/- FnPruneFor's arguments, opened. -/
import Derived.Test.YtehcnjjkklogbaaPfC
import Derived.Test.YtehcnjjkklogbaaOpens
namespace Go.Proofs.Ytehcnjjkklogbaa.PfOwn
open Go.RowKit Go.Proofs.Ytehcnjjkklogbaa.PFnPruneFor Go.Proofs.YtehcnjjkklogbaaW.PrintWords Go.Proofs.Ytehcnjjkklogbaa.Opens

theorem opens30 : Opens Try.prog 30 k30 (fun s => s.f0.size ≤ maxLen) :=
  opens_imp (opens_iso (f := fun x : S30 => (x.f0, x.f1, x.f2, x.f3, x.f4)) (g := fun t => ⟨t.1, t.2.1, t.2.2.1, t.2.2.2.1, t.2.2.2.2⟩) (fun _ => rfl)
    (opens_struct Try.underlying30 (by kernel_rfl)
      (from_cons (opens_string Try.underlying9) rfl (by kernel_rfl) (from_cons (opens_int Try.underlying5) rfl (by kernel_rfl) (from_cons (opens_int Try.underlying5) rfl (by kernel_rfl) (from_cons (opens_int Try.underlying5) rfl (by kernel_rfl) (from_last (opens_int Try.underlying5) rfl (by kernel_rfl)))))))) (fun _ h => h.1)
theorem opensL : Opens Try.prog 27 (Kd.slice 30 k30) (fun l => ∀ s ∈ l, s.f0.size ≤ maxLen) := opens_slice Try.underlying27 (by kernel_rfl) opens30
theorem law_row (all : Int) (l : List S30) (root : ByteArray) (w : World) (_ : (Lit.int .u8 all).wf = true) (A : Option Addr) (c : Nat) (hC : Kd.C k30 w A l.length l) (hcap : l.length ≤ c) (good : ∀ s ∈ l, s.f0.size ≤ maxLen) (hr : root.size ≤ 140737488351232) :
    Calls Try.prog 5 #[.int .u8 all, .slice A l.length c, .string root] w fun e w' => e = .returned (.bool true) ∧ Below w.heap.size w w' :=
  law_any all l root A c w ⟨hC, hcap, good, by unfold maxLen; omega⟩

end Go.Proofs.Ytehcnjjkklogbaa.PfOwn
