/- Merged by program out of: VOk, VAs, Rm. -/
import Derived.Test.YtgoeiflddikihaaGreatDoorCtM10
import Derived.Lib.ParseIntBCases
import Derived.Laws.OwnMore
import Derived.Laws.Tables
import Derived.Laws.CopyOwn
import Derived.Deep.MidRow
section
namespace Go.Proofs.YtgoeiflddikihaaGreatDoor.Ver
open Go.RowKit Go.Proofs.YtgoeiflddikihaaGreatDoor.Dig Go.Proofs.YtgoeiflddikihaaGreatDoorW.PrintWords

theorem numOf_lt {l r : List UInt8} {u : Nat} (h : numOf l = some (u, r)) : u < 18446744073709551616 ∧ r.length ≤ l.length := by
  unfold numOf at h
  split at h
  · cases h
  · split at h
    · rename_i u' hu
      simp at h
      obtain ⟨rfl, rfl⟩ := h
      have := Lib.parseUintB_le hu
      exact ⟨by have e : 2 ^ 64 - 1 = 18446744073709551615 := rfl; omega, by rw [List.length_drop]; omega⟩
    · cases h
theorem nums_ok : ∀ (m : Nat) (acc ns : List Nat) (l r : List UInt8), (∀ x ∈ acc, x < 18446744073709551616) → nums m acc l = some (ns, r) → (∀ x ∈ ns, x < 18446744073709551616) ∧ r.length ≤ l.length
  | 0, _, _, _, _, _, h => by simp [nums] at h
  | m + 1, acc, ns, l, r, ha, h => by
    rw [nums] at h
    split at h
    · cases h
    · rename_i a r' hn
      have hl := numOf_lt hn
      have hb : ∀ x ∈ acc ++ [a], x < 18446744073709551616 := fun x hx => by
        rcases List.mem_append.1 hx with hx | hx
        · exact ha x hx
        · rw [List.mem_singleton] at hx; rw [hx]; exact hl.1
      split at h
      · have := nums_ok m _ _ _ _ hb h
        exact ⟨this.1, by have h2 := this.2; rw [List.length_drop] at h2; omega⟩
      · simp at h
        obtain ⟨rfl, rfl⟩ := h
        exact ⟨hb, hl.2⟩
theorem part_len {c : UInt8} {l p r : List UInt8} (h : part c l = some (p, r)) : p.length ≤ l.length ∧ r.length ≤ l.length := by
  cases l with
  | nil => simp [part] at h; rw [h.1, h.2]; simp
  | cons x q =>
    rw [part] at h
    split at h
    · split at h
      · cases h
      · simp at h
        obtain ⟨rfl, rfl⟩ := h
        rw [List.length_take, List.length_drop, List.length_cons]
        omega
    · simp at h
      obtain ⟨rfl, rfl⟩ := h
      simp
theorem getD_lt {ns : List Nat} (h : ∀ x ∈ ns, x < 18446744073709551616) (i : Nat) : ns.getD i 0 < 18446744073709551616 := by
  rw [List.getD_eq_getElem?_getD]
  cases hx : ns[i]? with
  | none => simp
  | some x => exact h x (List.mem_of_getElem? hx)
theorem readV_ok' {s : ByteArray} {v : SV} {k : Nat} (hs : s.size ≤ 2147483647) (h : readV s = some (v, k)) : SVok v ∧ v.orig = s := by
  have hb := bare0_size s
  unfold readV at h
  split at h
  · cases h
  · rename_i ns r hn
    have h1 := nums_ok 3 [] ns _ r (fun x hx => by cases hx) hn
    split at h
    · cases h
    · rename_i pre r1 hp
      have h2 := part_len hp
      split at h
      · cases h
      · rename_i mt r2 hm
        have h3 := part_len hm
        split at h
        · injection h with h
          injection h with h h'
          subst h
          refine ⟨⟨by simp, ?_, by simp, ?_, by simp, ?_, ?_, ?_⟩, rfl⟩
          · show ((ns.getD 0 0 : Nat) : Int) < _
            have := getD_lt h1.1 0; omega
          · show ((ns.getD 1 0 : Nat) : Int) < _
            have := getD_lt h1.1 1; omega
          · show ((ns.getD 2 0 : Nat) : Int) < _
            have := getD_lt h1.1 2; omega
          · show pre.toArray.size ≤ _
            rw [List.size_toArray]; omega
          · show mt.toArray.size ≤ _
            rw [List.size_toArray]; omega
        · cases h

/-- What a version out of plain data is like. -/
def Unp.ok : Unp → Prop
  | .branch n _ => n.size ≤ 2147483647
  | .plain n => n.size ≤ 2147483647
  | .sem v => SVok v ∧ v.orig.size ≤ 2147483647
def Vers.ok : Vers → Prop
  | .rev s => s.size ≤ 2147483647
  | .un u => u.ok
  | .pair u r => u.ok ∧ r.size ≤ 2147483647
theorem newV_ok {s : ByteArray} (hs : s.size ≤ 2147483647) : (newV s).ok := by
  unfold newV
  split
  · exact hs
  · rename_i v k h
    have := readV_ok' hs h
    exact ⟨this.1, by rw [this.2]; exact hs⟩
theorem unpV_ok {k : Int} {t : ByteArray} (ht : t.size ≤ 2147483647) {u : Unp} (h : unpV k t = some u) : u.ok := by
  unfold unpV at h
  repeat' split at h
  · cases h; exact ht
  · cases h; exact ht
  · cases h; exact newV_ok ht
  · cases h
theorem verV_ok (k : Int) {t r : ByteArray} (ht : t.size ≤ 2147483647) (hr : r.size ≤ 2147483647) : (verV k t r).ok := by
  unfold verV
  split
  · exact ht
  · rename_i u hu
    split
    · exact unpV_ok ht hu
    · exact ⟨unpV_ok ht hu, hr⟩

end Go.Proofs.YtgoeiflddikihaaGreatDoor.Ver
end
section
namespace Go.Proofs.YtgoeiflddikihaaGreatDoor.Ver
open Go.RowKit

theorem c_rev_rev (v : Value) (xT : TypeId) (w : World) : (Instr.typeAssert (.iface 135 v) xT 135 true).run Tryz.prog w = .ok (.tuple #[v, .bool true]) w := by kernel_rfl
theorem c_rev_branch (v : Value) (xT : TypeId) (w : World) : (Instr.typeAssert (.iface 135 v) xT 215 true).run Tryz.prog w = .ok (.tuple #[.agg #[.string ⟨#[]⟩, .bool false], .bool false]) w := by kernel_rfl
theorem c_rev_plain (v : Value) (xT : TypeId) (w : World) : (Instr.typeAssert (.iface 135 v) xT 224 true).run Tryz.prog w = .ok (.tuple #[.string ⟨#[]⟩, .bool false]) w := by kernel_rfl
theorem c_rev_sem (v : Value) (xT : TypeId) (w : World) : (Instr.typeAssert (.iface 135 v) xT 200 true).run Tryz.prog w = .ok (.tuple #[.agg zSV, .bool false]) w := by kernel_rfl
theorem c_rev_pair (v : Value) (xT : TypeId) (w : World) : (Instr.typeAssert (.iface 135 v) xT 212 true).run Tryz.prog w = .ok (.tuple #[.agg #[.nilIface, .string ⟨#[]⟩], .bool false]) w := by kernel_rfl
theorem c_rev_any (v : Value) (xT : TypeId) (w : World) : (Instr.typeAssert (.iface 135 v) xT 191 true).run Tryz.prog w = .ok (.tuple #[.agg #[], .bool false]) w := by kernel_rfl
theorem c_rev_none (v : Value) (xT : TypeId) (w : World) : (Instr.typeAssert (.iface 135 v) xT 203 true).run Tryz.prog w = .ok (.tuple #[.agg #[], .bool false]) w := by kernel_rfl
theorem c_rev_sc (v : Value) (xT : TypeId) (w : World) : (Instr.typeAssert (.iface 135 v) xT 202 true).run Tryz.prog w = .ok (.tuple #[.agg #[.nilIface], .bool false]) w := by kernel_rfl
theorem c_branch_rev (v : Value) (xT : TypeId) (w : World) : (Instr.typeAssert (.iface 215 v) xT 135 true).run Tryz.prog w = .ok (.tuple #[.string ⟨#[]⟩, .bool false]) w := by kernel_rfl
theorem c_branch_branch (v : Value) (xT : TypeId) (w : World) : (Instr.typeAssert (.iface 215 v) xT 215 true).run Tryz.prog w = .ok (.tuple #[v, .bool true]) w := by kernel_rfl
theorem c_branch_plain (v : Value) (xT : TypeId) (w : World) : (Instr.typeAssert (.iface 215 v) xT 224 true).run Tryz.prog w = .ok (.tuple #[.string ⟨#[]⟩, .bool false]) w := by kernel_rfl
theorem c_branch_sem (v : Value) (xT : TypeId) (w : World) : (Instr.typeAssert (.iface 215 v) xT 200 true).run Tryz.prog w = .ok (.tuple #[.agg zSV, .bool false]) w := by kernel_rfl
theorem c_branch_pair (v : Value) (xT : TypeId) (w : World) : (Instr.typeAssert (.iface 215 v) xT 212 true).run Tryz.prog w = .ok (.tuple #[.agg #[.nilIface, .string ⟨#[]⟩], .bool false]) w := by kernel_rfl
theorem c_branch_any (v : Value) (xT : TypeId) (w : World) : (Instr.typeAssert (.iface 215 v) xT 191 true).run Tryz.prog w = .ok (.tuple #[.agg #[], .bool false]) w := by kernel_rfl
theorem c_branch_none (v : Value) (xT : TypeId) (w : World) : (Instr.typeAssert (.iface 215 v) xT 203 true).run Tryz.prog w = .ok (.tuple #[.agg #[], .bool false]) w := by kernel_rfl
theorem c_branch_sc (v : Value) (xT : TypeId) (w : World) : (Instr.typeAssert (.iface 215 v) xT 202 true).run Tryz.prog w = .ok (.tuple #[.agg #[.nilIface], .bool false]) w := by kernel_rfl
theorem c_plain_rev (v : Value) (xT : TypeId) (w : World) : (Instr.typeAssert (.iface 224 v) xT 135 true).run Tryz.prog w = .ok (.tuple #[.string ⟨#[]⟩, .bool false]) w := by kernel_rfl
theorem c_plain_branch (v : Value) (xT : TypeId) (w : World) : (Instr.typeAssert (.iface 224 v) xT 215 true).run Tryz.prog w = .ok (.tuple #[.agg #[.string ⟨#[]⟩, .bool false], .bool false]) w := by kernel_rfl
theorem c_plain_plain (v : Value) (xT : TypeId) (w : World) : (Instr.typeAssert (.iface 224 v) xT 224 true).run Tryz.prog w = .ok (.tuple #[v, .bool true]) w := by kernel_rfl
theorem c_plain_sem (v : Value) (xT : TypeId) (w : World) : (Instr.typeAssert (.iface 224 v) xT 200 true).run Tryz.prog w = .ok (.tuple #[.agg zSV, .bool false]) w := by kernel_rfl
theorem c_plain_pair (v : Value) (xT : TypeId) (w : World) : (Instr.typeAssert (.iface 224 v) xT 212 true).run Tryz.prog w = .ok (.tuple #[.agg #[.nilIface, .string ⟨#[]⟩], .bool false]) w := by kernel_rfl
theorem c_plain_any (v : Value) (xT : TypeId) (w : World) : (Instr.typeAssert (.iface 224 v) xT 191 true).run Tryz.prog w = .ok (.tuple #[.agg #[], .bool false]) w := by kernel_rfl
theorem c_plain_none (v : Value) (xT : TypeId) (w : World) : (Instr.typeAssert (.iface 224 v) xT 203 true).run Tryz.prog w = .ok (.tuple #[.agg #[], .bool false]) w := by kernel_rfl
theorem c_plain_sc (v : Value) (xT : TypeId) (w : World) : (Instr.typeAssert (.iface 224 v) xT 202 true).run Tryz.prog w = .ok (.tuple #[.agg #[.nilIface], .bool false]) w := by kernel_rfl
theorem c_sem_rev (v : Value) (xT : TypeId) (w : World) : (Instr.typeAssert (.iface 200 v) xT 135 true).run Tryz.prog w = .ok (.tuple #[.string ⟨#[]⟩, .bool false]) w := by kernel_rfl
theorem c_sem_branch (v : Value) (xT : TypeId) (w : World) : (Instr.typeAssert (.iface 200 v) xT 215 true).run Tryz.prog w = .ok (.tuple #[.agg #[.string ⟨#[]⟩, .bool false], .bool false]) w := by kernel_rfl
theorem c_sem_plain (v : Value) (xT : TypeId) (w : World) : (Instr.typeAssert (.iface 200 v) xT 224 true).run Tryz.prog w = .ok (.tuple #[.string ⟨#[]⟩, .bool false]) w := by kernel_rfl
theorem c_sem_sem (v : Value) (xT : TypeId) (w : World) : (Instr.typeAssert (.iface 200 v) xT 200 true).run Tryz.prog w = .ok (.tuple #[v, .bool true]) w := by kernel_rfl
theorem c_sem_pair (v : Value) (xT : TypeId) (w : World) : (Instr.typeAssert (.iface 200 v) xT 212 true).run Tryz.prog w = .ok (.tuple #[.agg #[.nilIface, .string ⟨#[]⟩], .bool false]) w := by kernel_rfl
theorem c_sem_any (v : Value) (xT : TypeId) (w : World) : (Instr.typeAssert (.iface 200 v) xT 191 true).run Tryz.prog w = .ok (.tuple #[.agg #[], .bool false]) w := by kernel_rfl
theorem c_sem_none (v : Value) (xT : TypeId) (w : World) : (Instr.typeAssert (.iface 200 v) xT 203 true).run Tryz.prog w = .ok (.tuple #[.agg #[], .bool false]) w := by kernel_rfl
theorem c_sem_sc (v : Value) (xT : TypeId) (w : World) : (Instr.typeAssert (.iface 200 v) xT 202 true).run Tryz.prog w = .ok (.tuple #[.agg #[.nilIface], .bool false]) w := by kernel_rfl
theorem c_pair_rev (v : Value) (xT : TypeId) (w : World) : (Instr.typeAssert (.iface 212 v) xT 135 true).run Tryz.prog w = .ok (.tuple #[.string ⟨#[]⟩, .bool false]) w := by kernel_rfl
theorem c_pair_branch (v : Value) (xT : TypeId) (w : World) : (Instr.typeAssert (.iface 212 v) xT 215 true).run Tryz.prog w = .ok (.tuple #[.agg #[.string ⟨#[]⟩, .bool false], .bool false]) w := by kernel_rfl
theorem c_pair_plain (v : Value) (xT : TypeId) (w : World) : (Instr.typeAssert (.iface 212 v) xT 224 true).run Tryz.prog w = .ok (.tuple #[.string ⟨#[]⟩, .bool false]) w := by kernel_rfl
theorem c_pair_sem (v : Value) (xT : TypeId) (w : World) : (Instr.typeAssert (.iface 212 v) xT 200 true).run Tryz.prog w = .ok (.tuple #[.agg zSV, .bool false]) w := by kernel_rfl
theorem c_pair_pair (v : Value) (xT : TypeId) (w : World) : (Instr.typeAssert (.iface 212 v) xT 212 true).run Tryz.prog w = .ok (.tuple #[v, .bool true]) w := by kernel_rfl
theorem c_pair_any (v : Value) (xT : TypeId) (w : World) : (Instr.typeAssert (.iface 212 v) xT 191 true).run Tryz.prog w = .ok (.tuple #[.agg #[], .bool false]) w := by kernel_rfl
theorem c_pair_none (v : Value) (xT : TypeId) (w : World) : (Instr.typeAssert (.iface 212 v) xT 203 true).run Tryz.prog w = .ok (.tuple #[.agg #[], .bool false]) w := by kernel_rfl
theorem c_pair_sc (v : Value) (xT : TypeId) (w : World) : (Instr.typeAssert (.iface 212 v) xT 202 true).run Tryz.prog w = .ok (.tuple #[.agg #[.nilIface], .bool false]) w := by kernel_rfl
theorem c_any_rev (v : Value) (xT : TypeId) (w : World) : (Instr.typeAssert (.iface 191 v) xT 135 true).run Tryz.prog w = .ok (.tuple #[.string ⟨#[]⟩, .bool false]) w := by kernel_rfl
theorem c_any_branch (v : Value) (xT : TypeId) (w : World) : (Instr.typeAssert (.iface 191 v) xT 215 true).run Tryz.prog w = .ok (.tuple #[.agg #[.string ⟨#[]⟩, .bool false], .bool false]) w := by kernel_rfl
theorem c_any_plain (v : Value) (xT : TypeId) (w : World) : (Instr.typeAssert (.iface 191 v) xT 224 true).run Tryz.prog w = .ok (.tuple #[.string ⟨#[]⟩, .bool false]) w := by kernel_rfl
theorem c_any_sem (v : Value) (xT : TypeId) (w : World) : (Instr.typeAssert (.iface 191 v) xT 200 true).run Tryz.prog w = .ok (.tuple #[.agg zSV, .bool false]) w := by kernel_rfl
theorem c_any_pair (v : Value) (xT : TypeId) (w : World) : (Instr.typeAssert (.iface 191 v) xT 212 true).run Tryz.prog w = .ok (.tuple #[.agg #[.nilIface, .string ⟨#[]⟩], .bool false]) w := by kernel_rfl
theorem c_any_any (v : Value) (xT : TypeId) (w : World) : (Instr.typeAssert (.iface 191 v) xT 191 true).run Tryz.prog w = .ok (.tuple #[v, .bool true]) w := by kernel_rfl
theorem c_any_none (v : Value) (xT : TypeId) (w : World) : (Instr.typeAssert (.iface 191 v) xT 203 true).run Tryz.prog w = .ok (.tuple #[.agg #[], .bool false]) w := by kernel_rfl
theorem c_any_sc (v : Value) (xT : TypeId) (w : World) : (Instr.typeAssert (.iface 191 v) xT 202 true).run Tryz.prog w = .ok (.tuple #[.agg #[.nilIface], .bool false]) w := by kernel_rfl
theorem c_none_rev (v : Value) (xT : TypeId) (w : World) : (Instr.typeAssert (.iface 203 v) xT 135 true).run Tryz.prog w = .ok (.tuple #[.string ⟨#[]⟩, .bool false]) w := by kernel_rfl
theorem c_none_branch (v : Value) (xT : TypeId) (w : World) : (Instr.typeAssert (.iface 203 v) xT 215 true).run Tryz.prog w = .ok (.tuple #[.agg #[.string ⟨#[]⟩, .bool false], .bool false]) w := by kernel_rfl
theorem c_none_plain (v : Value) (xT : TypeId) (w : World) : (Instr.typeAssert (.iface 203 v) xT 224 true).run Tryz.prog w = .ok (.tuple #[.string ⟨#[]⟩, .bool false]) w := by kernel_rfl
theorem c_none_sem (v : Value) (xT : TypeId) (w : World) : (Instr.typeAssert (.iface 203 v) xT 200 true).run Tryz.prog w = .ok (.tuple #[.agg zSV, .bool false]) w := by kernel_rfl
theorem c_none_pair (v : Value) (xT : TypeId) (w : World) : (Instr.typeAssert (.iface 203 v) xT 212 true).run Tryz.prog w = .ok (.tuple #[.agg #[.nilIface, .string ⟨#[]⟩], .bool false]) w := by kernel_rfl
theorem c_none_any (v : Value) (xT : TypeId) (w : World) : (Instr.typeAssert (.iface 203 v) xT 191 true).run Tryz.prog w = .ok (.tuple #[.agg #[], .bool false]) w := by kernel_rfl
theorem c_none_none (v : Value) (xT : TypeId) (w : World) : (Instr.typeAssert (.iface 203 v) xT 203 true).run Tryz.prog w = .ok (.tuple #[v, .bool true]) w := by kernel_rfl
theorem c_none_sc (v : Value) (xT : TypeId) (w : World) : (Instr.typeAssert (.iface 203 v) xT 202 true).run Tryz.prog w = .ok (.tuple #[.agg #[.nilIface], .bool false]) w := by kernel_rfl
theorem c_sc_rev (v : Value) (xT : TypeId) (w : World) : (Instr.typeAssert (.iface 202 v) xT 135 true).run Tryz.prog w = .ok (.tuple #[.string ⟨#[]⟩, .bool false]) w := by kernel_rfl
theorem c_sc_branch (v : Value) (xT : TypeId) (w : World) : (Instr.typeAssert (.iface 202 v) xT 215 true).run Tryz.prog w = .ok (.tuple #[.agg #[.string ⟨#[]⟩, .bool false], .bool false]) w := by kernel_rfl
theorem c_sc_plain (v : Value) (xT : TypeId) (w : World) : (Instr.typeAssert (.iface 202 v) xT 224 true).run Tryz.prog w = .ok (.tuple #[.string ⟨#[]⟩, .bool false]) w := by kernel_rfl
theorem c_sc_sem (v : Value) (xT : TypeId) (w : World) : (Instr.typeAssert (.iface 202 v) xT 200 true).run Tryz.prog w = .ok (.tuple #[.agg zSV, .bool false]) w := by kernel_rfl
theorem c_sc_pair (v : Value) (xT : TypeId) (w : World) : (Instr.typeAssert (.iface 202 v) xT 212 true).run Tryz.prog w = .ok (.tuple #[.agg #[.nilIface, .string ⟨#[]⟩], .bool false]) w := by kernel_rfl
theorem c_sc_any (v : Value) (xT : TypeId) (w : World) : (Instr.typeAssert (.iface 202 v) xT 191 true).run Tryz.prog w = .ok (.tuple #[.agg #[], .bool false]) w := by kernel_rfl
theorem c_sc_none (v : Value) (xT : TypeId) (w : World) : (Instr.typeAssert (.iface 202 v) xT 203 true).run Tryz.prog w = .ok (.tuple #[.agg #[], .bool false]) w := by kernel_rfl
theorem c_sc_sc (v : Value) (xT : TypeId) (w : World) : (Instr.typeAssert (.iface 202 v) xT 202 true).run Tryz.prog w = .ok (.tuple #[v, .bool true]) w := by kernel_rfl
theorem c_sv_sv (v : Value) (xT : TypeId) (w : World) : (Instr.typeAssert (.iface 197 v) xT 197 true).run Tryz.prog w = .ok (.tuple #[v, .bool true]) w := by kernel_rfl
theorem c_sv_range (v : Value) (xT : TypeId) (w : World) : (Instr.typeAssert (.iface 197 v) xT 238 true).run Tryz.prog w = .ok (.tuple #[.agg #[.slice none 0 0], .bool false]) w := by kernel_rfl
theorem c_range_sv (v : Value) (xT : TypeId) (w : World) : (Instr.typeAssert (.iface 238 v) xT 197 true).run Tryz.prog w = .ok (.tuple #[.agg zSV, .bool false]) w := by kernel_rfl
theorem c_range_range (v : Value) (xT : TypeId) (w : World) : (Instr.typeAssert (.iface 238 v) xT 238 true).run Tryz.prog w = .ok (.tuple #[v, .bool true]) w := by kernel_rfl

end Go.Proofs.YtgoeiflddikihaaGreatDoor.Ver
end
section
namespace Go.Proofs.YtgoeiflddikihaaGreatDoor.Ver
set_option linter.unusedSimpArgs false
open Go.RowKit Go.Proofs.YtgoeiflddikihaaGreatDoorW.PrintWords Go.Proofs.YtgoeiflddikihaaGreatDoor.Ord

/-- The cells of a piece: so many, each of one. -/
structure Pcell (cs : Array Value) : Prop where
  size : cs.size = 17
  one : cs.all (·.oneCell') = true
theorem sizeP : (Tryz.prog.info? 242).map (·.size) = some 17 := by kernel_rfl
theorem Pcell.info {cs : Array Value} (h : Pcell cs) : (Tryz.prog.info? 242).map (·.size) = some cs.size := by rw [h.size]; exact sizeP
abbrev zP : Array Value := #[.int .u64 0, .int .u64 0, .int .u64 0, .string ⟨#[]⟩, .string ⟨#[]⟩, .string ⟨#[]⟩, .int .u64 0, .int .u64 0, .int .u64 0, .string ⟨#[]⟩, .string ⟨#[]⟩, .string ⟨#[]⟩, .bool false, .bool false, .bool false, .bool false, .slice none 0 0]
theorem pcell_pcs (lo hi : SV) (a b c d : Bool) : Pcell (pcs lo hi a b c d) := ⟨rfl, by simp [pcs, Value.oneCell']⟩
theorem pcell_z : Pcell zP := ⟨rfl, by simp [Value.oneCell']⟩
theorem row_range {w : World} {base n cap g : Nat} {cs : Array Value} (h : w.ownsRow base 242 17 (.slice (some ⟨g, 0, none⟩) n cap) n cs.toList) (hn : cs.size = n * 17) : w.rangeAt g 0 cs.toList := by
  intro j v hv
  have hj : j < cs.size := by
    have := (List.getElem?_eq_some_iff.1 hv).1
    simpa using this
  rw [Nat.zero_add, h.cellAt j (by omega)]
  exact hv
theorem range_at {W : World} {g : Nat} {t : TypeId} {cs : Array Value} (h : W.heap[g]? = some (.cells cs t (0, 0))) : W.rangeAt g 0 cs.toList := by
  intro j v hv
  rw [Nat.zero_add, blk_cell h j, ← Array.getElem?_toList]
  exact hv

theorem at_third' (w : World) (a b c : Obj) : (((w.alloc a).alloc b).alloc c).heap[w.heap.size + 1 + 1]? = some c := by
  have := alloc_at ((w.alloc a).alloc b) c
  rw [alloc_size, alloc_size] at this
  exact this
set_option maxRecDepth 20000 in
set_option maxHeartbeats 2000000 in
theorem range_in (cs : Array Value) (hcs : Pcell cs) (v : SV) (base : Nat) (rv : Value) (w : World) (hown : w.ownsRow base 242 17 rv 1 cs.toList)
    (hhas : ∀ W, Calls Tryz.prog 300 #[.agg cs, .agg v.cells] W fun e w' => e = .returned (.bool true) ∧ Below W.heap.size W w') :
    Calls Tryz.prog 296 #[.agg #[rv], .agg v.cells] w fun e w' => e = .returned .nilIface ∧ Below w.heap.size w w' := by
  have HH := Lib.hid hhas
  have HB := Aside0.mk (Below.refl w.heap.size w)
  obtain ⟨g, cap, rfl, hg1, hg2⟩ := hown.form (by omega)
  have HR := Aside0.mk (row_range hown (by rw [hcs.size]))
  have HS := Aside0.mk hcs
  obtain ⟨va, vb, vc, vp, vm, vo⟩ := v
  dsimp only [SV.cells] at HH ⊢
  clear hown hg1 hhas hcs
  go_enter Tryz.func296, Tryz.ntmps296
  go_wp2_with fail
  refine wp_loop_rounds 1 ?_
  rw [rounds_succ]
  have W1 := Aside0.mk (below_alloc (below_alloc HB.out (.cells #[.slice (some ⟨g, 0, none⟩) 1 cap] 238)) (bSV va vb vc vp vm vo))
  have R1 := Aside0.mk (show ((w.alloc (.cells #[.slice (some ⟨g, 0, none⟩) 1 cap] 238)).alloc (bSV va vb vc vp vm vo)).rangeAt g 0 cs.toList from fun j x hx => (W1.out.cell (p := ⟨g, 0 + j, none⟩) hg2).trans (HR.out j x hx))
  have S1 := Lib.hid (show zP.size = cs.size by rw [HS.out.size]; rfl)
  have K6 := Aside0.mk (setRow_heap _ _ _ cs _ _ (at_third' w (.cells #[.slice (some ⟨g, 0, none⟩) 1 cap] 238) (bSV va vb vc vp vm vo) (.cells zP 242)))
  have K3 := Aside0.mk ((setRow_other (((w.alloc (.cells #[.slice (some ⟨g, 0, none⟩) 1 cap] 238)).alloc (bSV va vb vc vp vm vo)).alloc (.cells zP 242)) (w.heap.size + 1 + 1) (w.heap.size + 1) cs (by omega)).trans (blk_alloc (at_second w (.cells #[.slice (some ⟨g, 0, none⟩) 1 cap] 238) (bSV va vb vc vp vm vo)) _))
  have B5 := Aside0.mk (below_setRow (below_alloc W1.out (.cells zP 242)) (g := w.heap.size + 1 + 1) (by omega) cs)
  have HW5 : ∃ W5, W5 = ((((w.alloc (.cells #[.slice (some ⟨g, 0, none⟩) 1 cap] 238)).alloc (bSV va vb vc vp vm vo)).alloc (.cells zP 242)).setRow (w.heap.size + 1 + 1) cs) := ⟨_, rfl⟩
  obtain ⟨W5, hW5⟩ := HW5
  rw [← hW5] at K6 K3 B5
  have HW := Lib.hid hW5
  clear hW5
  go_wp2_with (first
    | (refine wpList_load_mid rfl 242 (.tmp 12) rfl g 0 rfl cs.toList _ R1.out Tryz.underlying242 rfl (by simpa using HS.out.info) ?_)
    | (refine wpList_store_row (by rfl) 242 (.tmp 6) (.tmp 13) (by rfl) (w.heap.size + 1 + 1) cs (by rfl) (by rfl) 242 zP (at_third' w _ _ _) HS.out.info S1.out HS.out.one ?_; rw [← HW.out])
    | (refine wpList_load_row (by rfl) 242 (.tmp 6) (by rfl) (w.heap.size + 1 + 1) (by rfl) 242 cs (0, 0) _ K6.out Tryz.underlying242 rfl HS.out.info ?_)
    | (refine wpList_load_row (by rfl) 197 (.tmp 3) (by rfl) (w.heap.size + 1) (by rfl) 197 #[.int .u64 va, .int .u64 vb, .int .u64 vc, .string vp, .string vm, .string vo] (0, 0) _ K3.out Tryz.underlying197 rfl (by kernel_rfl) ?_)
    | (go_at_call 300; ((with_reducible refine (HH.out _).mono ?_); rintro e w9 ⟨rfl, hb1⟩; have HB9 := Aside0.mk (below_trans B5.out hb1); clear hb1)))
  go_ret
  exact ⟨rfl, HB9.out⟩
end Go.Proofs.YtgoeiflddikihaaGreatDoor.Ver
end
