/- What the proofs ask of the library's variables. -/
import Derived.Test.YtehcnjjkklogbaaDoorProg
import Derived.Below
import Derived.Lib.LaidTab
import Derived.Lib.ItoaNum
namespace Go.Proofs.YtehcnjjkklogbaaDoor.Dig
open Go.RowKit

/-- What the row's listed variables give: the two sentinels, the table. -/
structure Vars (w : World) : Prop where
  syn : ∃ (tp : TypeId) (p : Value), w.var? Tryd.prog "strconv.ErrSyntax" = some #[.iface tp p]
  rng : ∃ (tp : TypeId) (p : Value), w.var? Tryd.prog "strconv.ErrRange" = some #[.iface tp p]
  tab : Lib.TabIs Tryd.prog w "internal/strconv.uint64pow10" .u64 Lib.pow10Tab

theorem var_below {P : Program} {w w' : World} {name : String} {cs : Array Value} (h : w.var? P name = some cs) (hb : Below w.heap.size w w') : w'.var? P name = some cs := by
  unfold World.var? at *
  obtain ⟨g, hg, h⟩ := Option.bind_eq_some_iff.1 h
  rw [hg, Option.bind_some]
  have hlt : g < w.heap.size := by
    rcases Nat.lt_or_ge g w.heap.size with h1 | h1
    · exact h1
    · rw [Array.getElem?_eq_none h1] at h; cases h
  rw [hb.block g hlt]; exact h
theorem Vars.below {w w' : World} (h : Vars w) (hb : Below w.heap.size w w') : Vars w' := by
  obtain ⟨⟨t1, p1, h1⟩, ⟨t2, p2, h2⟩, h3⟩ := h
  exact ⟨⟨t1, p1, var_below h1 hb⟩, ⟨t2, p2, var_below h2 hb⟩, var_below h3 hb⟩

end Go.Proofs.YtehcnjjkklogbaaDoor.Dig
