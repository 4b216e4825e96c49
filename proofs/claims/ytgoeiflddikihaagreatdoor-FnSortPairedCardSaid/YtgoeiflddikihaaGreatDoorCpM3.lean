/- Merged by program out of: ShelfS, Vars, Head, Shelf. -/
import Derived.Ground.GgsProg
import Derived.Shelf.SlSortFunc.Xorshift
import Derived.Shelf.LaysC
import Derived.Test.YtgoeiflddikihaaGreatDoorProg
import Derived.Below
import Derived.Lib.LaidTab
import Derived.Lib.ItoaNum
import Derived.JoinedOf
import Derived.JoinedCond
import Derived.ProofKit
import Derived.Shelf.Strconv.Itoa0
import Derived.Shelf.Strconv.Itoa1
import Derived.Shelf.LaysM
import Derived.Shelf.Strconv.Itoa2
import Derived.Shelf.Strconv.Itoa3
import Derived.Shelf.Strconv.Clone
import Derived.Shelf.Strconv.SyntaxError
import Derived.Shelf.Strconv.ToError
import Derived.Shelf.Strconv.Lower
import Derived.Shelf.Strconv.ParseUint10
import Derived.Shelf.Strconv.ParseUint10Empty
import Derived.Shelf.Strconv.ParseUint10Any
import Derived.Shelf.Strconv.RangeError
import Derived.Shelf.Strconv.ToErrorRange
import Derived.Ground.MpProg
import Derived.Shelf.Pu.ParseUintPublic10
import Derived.Shelf.Pu.ErrVarParseUint
section
namespace Go.Proofs
open Go.Shelf
def Tryz.laysGg36_ren : Go.Shelf.Ren := ⟨fun | 36 => 147 | n => n, fun | 66 => 263 | 51 => 46 | 0 => 0 | 60 => 248 | 41 => 209 | n => n, fun | n => n⟩
theorem Tryz.laysGg36 : Go.Proofs.LaysGg.n36 Tryz.prog Tryz.laysGg36_ren := {
  mixed := by kernel_rfl
  f36 := Tryz.func147.trans (congrArg some (by kernel_rfl))
  t0 := Tryz.underlying0
  a0 := Tryz.isAgg0
  z0 := Tryz.sizeOf0
  v0 := Tryz.zeroValue0
  i0 := by kernel_rfl
  t41 := Tryz.underlying209
  a41 := Tryz.isAgg209
  z41 := Tryz.sizeOf209
  v41 := Tryz.zeroValue209
  i41 := by kernel_rfl
  t51 := Tryz.underlying46
  a51 := Tryz.isAgg46
  z51 := Tryz.sizeOf46
  v51 := Tryz.zeroValue46
  i51 := by kernel_rfl
  t60 := Tryz.underlying248
  a60 := Tryz.isAgg248
  z60 := Tryz.sizeOf248
  v60 := Tryz.zeroValue248
  i60 := by kernel_rfl
  t66 := Tryz.underlying263
  a66 := Tryz.isAgg263
  z66 := Tryz.sizeOf263
  v66 := Tryz.zeroValue263
  i66 := by kernel_rfl }
open Go.RowKit Go.Lib Go.Sort in
theorem Tryz.xorshift_Next (rb ro X : Nat) (hX : X < 18446744073709551616) (w : World) (hc : w.cell? ⟨rb, ro, none⟩ = some (.int .u64 X)) (hf : w.frozen? ⟨rb, ro, none⟩ = false) :
    Calls Tryz.prog 147 #[.pointer (some ⟨rb, ro, none⟩)] w fun e w' => e = .returned (.int .u64 (xorNextN X : Nat)) ∧ w' = (w.setCell ⟨rb, ro, none⟩ (.int .u64 (xorNextN X : Nat))).drewN 3 := Any.xorshift_Next Tryz.laysGg36 rb ro X hX w hc hf
def Tryz.laysGg35_ren : Go.Shelf.Ren := ⟨fun | 35 => 146 | 13 => 123 | 24 => 130 | 25 => 131 | n => n, fun | 3 => 3 | 41 => 209 | 49 => 60 | 51 => 46 | 4 => 4 | 5 => 5 | 9 => 9 | n => n, fun | n => n⟩
theorem Tryz.laysGg35 : Go.Proofs.LaysGg.n35 Tryz.prog Tryz.laysGg35_ren := {
  mixed := by kernel_rfl
  f13 := Tryz.func123.trans (congrArg some (by kernel_rfl))
  f24 := Tryz.func130.trans (congrArg some (by kernel_rfl))
  f25 := Tryz.func131.trans (congrArg some (by kernel_rfl))
  f35 := Tryz.func146.trans (congrArg some (by kernel_rfl))
  t3 := Tryz.underlying3
  a3 := Tryz.isAgg3
  z3 := Tryz.sizeOf3
  v3 := Tryz.zeroValue3
  i3 := by kernel_rfl
  t4 := Tryz.underlying4
  a4 := Tryz.isAgg4
  z4 := Tryz.sizeOf4
  v4 := Tryz.zeroValue4
  i4 := by kernel_rfl
  t5 := Tryz.underlying5
  a5 := Tryz.isAgg5
  z5 := Tryz.sizeOf5
  v5 := Tryz.zeroValue5
  i5 := by kernel_rfl
  t9 := Tryz.underlying9
  a9 := Tryz.isAgg9
  z9 := Tryz.sizeOf9
  v9 := Tryz.zeroValue9
  i9 := by kernel_rfl
  t41 := Tryz.underlying209
  a41 := Tryz.isAgg209
  z41 := Tryz.sizeOf209
  v41 := Tryz.zeroValue209
  i41 := by kernel_rfl
  t49 := Tryz.underlying60
  a49 := Tryz.isAgg60
  z49 := Tryz.sizeOf60
  v49 := Tryz.zeroValue60
  i49 := by kernel_rfl
  t51 := Tryz.underlying46
  a51 := Tryz.isAgg46
  z51 := Tryz.sizeOf46
  v51 := Tryz.zeroValue46
  i51 := by kernel_rfl }
open Go.RowKit Go.Lib Go.Sort in
theorem Tryz.nextPowerOfTwo (n : Nat) (hn : n < 4611686018427387904) (w : World) :
    Calls Tryz.prog 146 #[.int .i64 n] w fun e w' => e = .returned (.int .u64 ((1 <<< bitsLen n : Nat) : Int)) ∧ w' = w := Any.nextPowerOfTwo Tryz.laysGg35 n hn w
end Go.Proofs
end
section
namespace Go.Proofs.YtgoeiflddikihaaGreatDoor.Dig
open Go.RowKit
structure Vars (w : World) : Prop where
  syn : ∃ (tp : TypeId) (p : Value), w.var? Tryz.prog "strconv.ErrSyntax" = some #[.iface tp p]
  rng : ∃ (tp : TypeId) (p : Value), w.var? Tryz.prog "strconv.ErrRange" = some #[.iface tp p]
  tab : Lib.TabIs Tryz.prog w "internal/strconv.uint64pow10" .u64 Lib.pow10Tab
theorem var_below {P : Program} {w w' : World} {name : String} {cs : Array Value} (h : w.var? P name = some cs) (hb : Below w.heap.size w w') : w'.var? P name = some cs := by
  unfold World.var? at *
  obtain ⟨g, hg, h⟩ := Option.bind_eq_some_iff.1 h
  rw [hg, Option.bind_some]
  have hlt : g < w.heap.size := by
    rcases Nat.lt_or_ge g w.heap.size with h1 | h1
    · exact h1
    · rw [Array.getElem?_eq_none h1] at h; cases h
  rw [hb.block g hlt]; exact h
theorem Vars.below {w w' : World} (h : Vars w) (hb : Below w.heap.size w w') : Vars w' := by
  obtain ⟨⟨t1, p1, h1⟩, ⟨t2, p2, h2⟩, h3⟩ := h
  exact ⟨⟨t1, p1, var_below h1 hb⟩, ⟨t2, p2, var_below h2 hb⟩, var_below h3 hb⟩
end Go.Proofs.YtgoeiflddikihaaGreatDoor.Dig
end
section
namespace Go.Proofs.YtgoeiflddikihaaGreatDoorW.Head
open Go
theorem words_step (w r : List Char) (hw : w.all (· != ' ') = true) : wordsSigns (w ++ ' ' :: r) = w :: wordsSigns r := by
  induction w with
  | nil => rfl
  | cons c w ih =>
    simp only [List.all_cons, Bool.and_eq_true] at hw
    have hc : c ≠ ' ' := by simpa using hw.1
    show wordsSigns (c :: (w ++ ' ' :: r)) = _
    rw [wordsSigns.eq_def]
    split
    · next h => cases h
    · next h => cases h; exact absurd rfl hc
    · next c' r' _ h => cases h; rw [ih hw.2]
theorem sum_plain {s : List Char} (h : isSumSigns s = true) : s.all (· != ' ') = true := by
  unfold isSumSigns at h
  simp only [Bool.and_eq_true] at h
  rw [List.all_eq_true] at *
  intro c hc
  have := h.2 c hc
  rw [bne_iff_ne]
  rintro rfl
  revert this
  decide
structure Cut (P : Program) (s : List Char) : Prop where
  words : ∃ r, behindMainWord (wordsSigns P.initOrder.toList) = "cut".toList :: r
  main : P.mainIs = some (true, s)
theorem cut_of {P : Program} {s r : List Char} (h : P.initOrder.toList = "harness".toList ++ ' ' :: (s ++ ' ' :: ("cut".toList ++ ' ' :: r))) (hs : isSumSigns s = true) : Cut P s := by
  have e : wordsSigns P.initOrder.toList = "harness".toList :: s :: "cut".toList :: wordsSigns r := by
    rw [h, words_step _ _ (by decide), words_step _ _ (sum_plain hs), words_step _ _ (by decide)]
  constructor
  · refine ⟨wordsSigns r, ?_⟩
    rw [e]
    show (if (("harness".toList == "harness".toList || _) && isSumSigns s) = true then _ else _) = _
    rw [hs]; simp
  · unfold Program.mainIs
    rw [e]; simp [hs]
variable {P : Program} {s : List Char}
theorem strip (r : List (List Char)) : stripLifts liftWords ("cut".toList :: r) = ([], "cut".toList :: r) := by
  have go : ∀ l : List String, (∀ o ∈ l, ("cut".toList == o.toList) = false) → stripLifts l ("cut".toList :: r) = ([], "cut".toList :: r) := by
    intro l hl
    induction l with
    | nil => rfl
    | cons o os ih =>
      unfold stripLifts
      rw [hl o (by simp), ih (fun o ho => hl o (by simp [ho]))]
      rfl
  exact go _ (by decide)
theorem Cut.lifts (h : Cut P s) : P.headLifts = [] := by
  obtain ⟨r, hr⟩ := h.words
  unfold Program.headLifts
  rw [hr, strip]; simp
theorem Cut.final (h : Cut P s) : P.liftsFinal = false := by
  have hl := h.lifts
  obtain ⟨r, hr⟩ := h.words
  unfold Program.liftsFinal
  rw [hr, hl]
  simp
theorem Cut.make (h : Cut P s) : P.make = some .cut := by
  obtain ⟨r, hr⟩ := h.words
  unfold Program.make
  rw [hr]
  simp
theorem Cut.enter (h : Cut P s) (hl : P.laysLater = false) (hb : P.bearsReflect = false) (hd : P.doorFits [] = true) : P.mayEnter = true := by
  obtain ⟨r, hr⟩ := h.words
  unfold Program.mayEnter
  rw [hr]
  show (_ || _ || _) = true
  rw [strip, hl, hb]
  simp [hd]
end Go.Proofs.YtgoeiflddikihaaGreatDoorW.Head
end
section
namespace Go.Proofs
open Go.Shelf
def Tryz.lays129_ren : Go.Shelf.Ren := ⟨fun | 129 => 131 | n => n, fun | 53 => 46 | 3 => 3 | 4 => 4 | 46 => 209 | 5 => 5 | 9 => 9 | n => n, fun | n => n⟩
theorem Tryz.lays129 : Go.Proofs.Lays.n129 Tryz.prog Tryz.lays129_ren := {
  mixed := by kernel_rfl
  f129 := Tryz.func131.trans (congrArg some (by kernel_rfl))
  t3 := Tryz.underlying3
  a3 := Tryz.isAgg3
  z3 := Tryz.sizeOf3
  v3 := Tryz.zeroValue3
  t4 := Tryz.underlying4
  a4 := Tryz.isAgg4
  z4 := Tryz.sizeOf4
  v4 := Tryz.zeroValue4
  t5 := Tryz.underlying5
  a5 := Tryz.isAgg5
  z5 := Tryz.sizeOf5
  v5 := Tryz.zeroValue5
  t9 := Tryz.underlying9
  a9 := Tryz.isAgg9
  z9 := Tryz.sizeOf9
  v9 := Tryz.zeroValue9
  t46 := Tryz.underlying209
  a46 := Tryz.isAgg209
  z46 := Tryz.sizeOf209
  v46 := Tryz.zeroValue209
  t53 := Tryz.underlying46
  a53 := Tryz.isAgg46
  z53 := Tryz.sizeOf46
  v53 := Tryz.zeroValue46 }
theorem Tryz.bits_Len64 (x : Int) (w : World) (h0 : 0 ≤ x) (h1 : x ≤ 18446744073709551615) :
    Calls Tryz.prog 131 #[.int .u64 x] w fun e w' => e = .returned (.int .i64 (Lib.bitLen x.toNat)) ∧ w' = w := Any.bits_Len64 Tryz.lays129 x w h0 h1
def Tryz.lays283_ren : Go.Shelf.Ren := ⟨fun | 283 => 168 | n => n, fun | 3 => 3 | 9 => 9 | 4 => 4 | n => n, fun | n => n⟩
theorem Tryz.lays283 : Go.Proofs.Lays.n283 Tryz.prog Tryz.lays283_ren := {
  mixed := by kernel_rfl
  f283 := Tryz.func168.trans (congrArg some (by kernel_rfl))
  t3 := Tryz.underlying3
  a3 := Tryz.isAgg3
  z3 := Tryz.sizeOf3
  v3 := Tryz.zeroValue3
  t4 := Tryz.underlying4
  a4 := Tryz.isAgg4
  z4 := Tryz.sizeOf4
  v4 := Tryz.zeroValue4
  t9 := Tryz.underlying9
  a9 := Tryz.isAgg9
  z9 := Tryz.sizeOf9
  v9 := Tryz.zeroValue9 }
open Go.Lib in
theorem Tryz.internal_strconv_small (i : Nat) (h : i < 100) (w : World) :
    Calls Tryz.prog 168 #[.int .i64 i] w fun e w' => e = .returned (.string ⟨(Lib.decDigits i).toArray⟩) ∧ w' = w := Any.internal_strconv_small Tryz.lays283 i h w
def Tryz.laysM284_ren : Go.Shelf.Ren := ⟨fun | 284 => 169 | 129 => 131 | 317 => 172 | 318 => 173 | n => n, fun | 53 => 46 | 3 => 3 | 212 => 282 | 0 => 0 | 4 => 4 | 46 => 209 | 5 => 5 | 9 => 9 | n => n, fun | 17 => 2 | n => n⟩
theorem Tryz.laysM284 : Go.Proofs.LaysM.n284 Tryz.prog Tryz.laysM284_ren := {
  mixed := by kernel_rfl
  f129 := Tryz.func131.trans (congrArg some (by kernel_rfl))
  f284 := Tryz.func169.trans (congrArg some (by kernel_rfl))
  f317 := Tryz.func172.trans (congrArg some (by kernel_rfl))
  f318 := Tryz.func173.trans (congrArg some (by kernel_rfl))
  t0 := Tryz.underlying0
  a0 := Tryz.isAgg0
  z0 := Tryz.sizeOf0
  v0 := Tryz.zeroValue0
  t3 := Tryz.underlying3
  a3 := Tryz.isAgg3
  z3 := Tryz.sizeOf3
  v3 := Tryz.zeroValue3
  t4 := Tryz.underlying4
  a4 := Tryz.isAgg4
  z4 := Tryz.sizeOf4
  v4 := Tryz.zeroValue4
  t5 := Tryz.underlying5
  a5 := Tryz.isAgg5
  z5 := Tryz.sizeOf5
  v5 := Tryz.zeroValue5
  t9 := Tryz.underlying9
  a9 := Tryz.isAgg9
  z9 := Tryz.sizeOf9
  v9 := Tryz.zeroValue9
  t46 := Tryz.underlying209
  a46 := Tryz.isAgg209
  z46 := Tryz.sizeOf209
  v46 := Tryz.zeroValue209
  t53 := Tryz.underlying46
  a53 := Tryz.isAgg46
  z53 := Tryz.sizeOf46
  v53 := Tryz.zeroValue46
  t212 := Tryz.underlying282
  a212 := Tryz.isAgg282
  z212 := Tryz.sizeOf282
  v212 := Tryz.zeroValue282
  g17 := by kernel_rfl
  i0 := by kernel_rfl
  i3 := by kernel_rfl
  i4 := by kernel_rfl
  i5 := by kernel_rfl
  i9 := by kernel_rfl
  i46 := by kernel_rfl
  i53 := by kernel_rfl
  i212 := by kernel_rfl
  m17 := by kernel_rfl }
open Go.Lib in
theorem Tryz.internal_strconv_numDigits (u : Nat) (h1 : 1 ≤ u) (h2 : u < 18446744073709551616) (w : World) (htab : Lib.TabIs Tryz.prog w "internal/strconv.uint64pow10" .u64 Lib.pow10Tab) :
    Calls Tryz.prog 169 #[.int .u64 u] w fun e w' => e = .returned (.int .i64 (Lib.nDigits u)) ∧ w' = w := Any.internal_strconv_numDigits Tryz.laysM284 u h1 h2 w htab
def Tryz.lays285_ren : Go.Shelf.Ren := ⟨fun | 285 => 170 | n => n, fun | 37 => 80 | 53 => 46 | 3 => 3 | 4 => 4 | 51 => 60 | 9 => 9 | 5 => 5 | 0 => 0 | n => n, fun | n => n⟩
theorem Tryz.lays285 : Go.Proofs.Lays.n285 Tryz.prog Tryz.lays285_ren := {
  mixed := by kernel_rfl
  f285 := Tryz.func170.trans (congrArg some (by kernel_rfl))
  t0 := Tryz.underlying0
  a0 := Tryz.isAgg0
  z0 := Tryz.sizeOf0
  v0 := Tryz.zeroValue0
  t3 := Tryz.underlying3
  a3 := Tryz.isAgg3
  z3 := Tryz.sizeOf3
  v3 := Tryz.zeroValue3
  t4 := Tryz.underlying4
  a4 := Tryz.isAgg4
  z4 := Tryz.sizeOf4
  v4 := Tryz.zeroValue4
  t5 := Tryz.underlying5
  a5 := Tryz.isAgg5
  z5 := Tryz.sizeOf5
  v5 := Tryz.zeroValue5
  t9 := Tryz.underlying9
  a9 := Tryz.isAgg9
  z9 := Tryz.sizeOf9
  v9 := Tryz.zeroValue9
  t37 := Tryz.underlying80
  a37 := Tryz.isAgg80
  z37 := Tryz.sizeOf80
  v37 := Tryz.zeroValue80
  t51 := Tryz.underlying60
  a51 := Tryz.isAgg60
  z51 := Tryz.sizeOf60
  v51 := Tryz.zeroValue60
  t53 := Tryz.underlying46
  a53 := Tryz.isAgg46
  z53 := Tryz.sizeOf46
  v53 := Tryz.zeroValue46 }
open Go.RowKit Go.Sort Go.Lib in
theorem Tryz.internal_strconv_formatBase10 (blk off cap : Nat) (u : Nat) (d : Array UInt8) (w : World) (hH : Holds (fun (b : UInt8) => Value.int .u8 (b.toNat : Int)) w blk off d) (hu : u < 10 ^ d.size) (hu64 : u < 18446744073709551616) (hsz : d.size < 4611686018427387904) :
    Calls Tryz.prog 170 #[.slice (some ⟨blk, off, none⟩) d.size cap, .int .u64 u] w fun e w' =>
      e = .returned (.tuple #[]) ∧ ∃ (n v' : Nat) (dk : Array UInt8), w' = (putRow (fun (b : UInt8) => Value.int .u8 (b.toNat : Int)) w blk off dk).drewN n ∧ FmtInv d.size u 0 v' dk := Any.internal_strconv_formatBase10 Tryz.lays285 blk off cap u d w hH hu hu64 hsz
def Tryz.laysPu14_ren : Go.Shelf.Ren := ⟨fun | 14 => 152 | 16 => 156 | 17 => 157 | 19 => 158 | 20 => 159 | 21 => 160 | 22 => 161 | 23 => 162 | 24 => 163 | 25 => 164 | 27 => 165 | 26 => 144 | 28 => 166 | 29 => 167 | 30 => 168 | 31 => 169 | 32 => 170 | 33 => 171 | 35 => 131 | 34 => 172 | 36 => 173 | 37 => 174 | 38 => 175 | 39 => 176 | 40 => 177 | n => n, fun | 9 => 9 | 3 => 3 | 22 => 46 | 24 => 166 | 25 => 257 | 4 => 4 | 34 => 267 | 5 => 5 | 36 => 209 | 37 => 80 | 0 => 0 | 39 => 269 | 21 => 21 | 44 => 273 | 47 => 275 | 50 => 262 | 48 => 260 | 2 => 2 | 52 => 277 | 55 => 279 | 59 => 282 | 60 => 60 | 20 => 20 | 61 => 283 | 65 => 285 | 66 => 286 | 67 => 129 | n => n, fun | 0 => 0 | 1 => 1 | 2 => 2 | 3 => 3 | 4 => 4 | n => n⟩
theorem Tryz.laysPu14 : Go.Proofs.LaysPu.n14 Tryz.prog Tryz.laysPu14_ren := {
  mixed := by kernel_rfl
  f14 := Tryz.func152.trans (congrArg some (by kernel_rfl))
  f16 := Tryz.func156.trans (congrArg some (by kernel_rfl))
  f17 := Tryz.func157.trans (congrArg some (by kernel_rfl))
  f19 := Tryz.func158.trans (congrArg some (by kernel_rfl))
  f20 := Tryz.func159.trans (congrArg some (by kernel_rfl))
  f21 := Tryz.func160.trans (congrArg some (by kernel_rfl))
  f22 := Tryz.func161.trans (congrArg some (by kernel_rfl))
  f23 := Tryz.func162.trans (congrArg some (by kernel_rfl))
  f24 := Tryz.func163.trans (congrArg some (by kernel_rfl))
  f25 := Tryz.func164.trans (congrArg some (by kernel_rfl))
  f26 := Tryz.func144.trans (congrArg some (by kernel_rfl))
  f27 := Tryz.func165.trans (congrArg some (by kernel_rfl))
  f28 := Tryz.func166.trans (congrArg some (by kernel_rfl))
  f29 := Tryz.func167.trans (congrArg some (by kernel_rfl))
  f30 := Tryz.func168.trans (congrArg some (by kernel_rfl))
  f31 := Tryz.func169.trans (congrArg some (by kernel_rfl))
  f32 := Tryz.func170.trans (congrArg some (by kernel_rfl))
  f33 := Tryz.func171.trans (congrArg some (by kernel_rfl))
  f34 := Tryz.func172.trans (congrArg some (by kernel_rfl))
  f35 := Tryz.func131.trans (congrArg some (by kernel_rfl))
  f36 := Tryz.func173.trans (congrArg some (by kernel_rfl))
  f37 := Tryz.func174.trans (congrArg some (by kernel_rfl))
  f38 := Tryz.func175.trans (congrArg some (by kernel_rfl))
  f39 := Tryz.func176.trans (congrArg some (by kernel_rfl))
  f40 := Tryz.func177.trans (congrArg some (by kernel_rfl))
  t0 := Tryz.underlying0
  a0 := Tryz.isAgg0
  z0 := Tryz.sizeOf0
  v0 := Tryz.zeroValue0
  i0 := by kernel_rfl
  t2 := Tryz.underlying2
  a2 := Tryz.isAgg2
  z2 := Tryz.sizeOf2
  v2 := Tryz.zeroValue2
  i2 := by kernel_rfl
  t3 := Tryz.underlying3
  a3 := Tryz.isAgg3
  z3 := Tryz.sizeOf3
  v3 := Tryz.zeroValue3
  i3 := by kernel_rfl
  t4 := Tryz.underlying4
  a4 := Tryz.isAgg4
  z4 := Tryz.sizeOf4
  v4 := Tryz.zeroValue4
  i4 := by kernel_rfl
  t5 := Tryz.underlying5
  a5 := Tryz.isAgg5
  z5 := Tryz.sizeOf5
  v5 := Tryz.zeroValue5
  i5 := by kernel_rfl
  t9 := Tryz.underlying9
  a9 := Tryz.isAgg9
  z9 := Tryz.sizeOf9
  v9 := Tryz.zeroValue9
  i9 := by kernel_rfl
  t20 := Tryz.underlying20
  a20 := Tryz.isAgg20
  z20 := Tryz.sizeOf20
  v20 := Tryz.zeroValue20
  i20 := by kernel_rfl
  t21 := Tryz.underlying21
  a21 := Tryz.isAgg21
  z21 := Tryz.sizeOf21
  v21 := Tryz.zeroValue21
  i21 := by kernel_rfl
  t22 := Tryz.underlying46
  a22 := Tryz.isAgg46
  z22 := Tryz.sizeOf46
  v22 := Tryz.zeroValue46
  i22 := by kernel_rfl
  t24 := Tryz.underlying166
  a24 := Tryz.isAgg166
  z24 := Tryz.sizeOf166
  v24 := Tryz.zeroValue166
  i24 := by kernel_rfl
  t25 := Tryz.underlying257
  a25 := Tryz.isAgg257
  z25 := Tryz.sizeOf257
  v25 := Tryz.zeroValue257
  i25 := by kernel_rfl
  t34 := Tryz.underlying267
  a34 := Tryz.isAgg267
  z34 := Tryz.sizeOf267
  v34 := Tryz.zeroValue267
  i34 := by kernel_rfl
  c34 := by kernel_rfl
  t36 := Tryz.underlying209
  a36 := Tryz.isAgg209
  z36 := Tryz.sizeOf209
  v36 := Tryz.zeroValue209
  i36 := by kernel_rfl
  t37 := Tryz.underlying80
  a37 := Tryz.isAgg80
  z37 := Tryz.sizeOf80
  v37 := Tryz.zeroValue80
  i37 := by kernel_rfl
  t39 := Tryz.underlying269
  a39 := Tryz.isAgg269
  z39 := Tryz.sizeOf269
  v39 := Tryz.zeroValue269
  i39 := by kernel_rfl
  t44 := Tryz.underlying273
  a44 := Tryz.isAgg273
  z44 := Tryz.sizeOf273
  v44 := Tryz.zeroValue273
  i44 := by kernel_rfl
  t47 := Tryz.underlying275
  a47 := Tryz.isAgg275
  z47 := Tryz.sizeOf275
  v47 := Tryz.zeroValue275
  i47 := by kernel_rfl
  t48 := Tryz.underlying260
  a48 := Tryz.isAgg260
  z48 := Tryz.sizeOf260
  v48 := Tryz.zeroValue260
  i48 := by kernel_rfl
  t50 := Tryz.underlying262
  a50 := Tryz.isAgg262
  z50 := Tryz.sizeOf262
  v50 := Tryz.zeroValue262
  i50 := by kernel_rfl
  t52 := Tryz.underlying277
  a52 := Tryz.isAgg277
  z52 := Tryz.sizeOf277
  v52 := Tryz.zeroValue277
  i52 := by kernel_rfl
  t55 := Tryz.underlying279
  a55 := Tryz.isAgg279
  z55 := Tryz.sizeOf279
  v55 := Tryz.zeroValue279
  i55 := by kernel_rfl
  t59 := Tryz.underlying282
  a59 := Tryz.isAgg282
  z59 := Tryz.sizeOf282
  v59 := Tryz.zeroValue282
  i59 := by kernel_rfl
  t60 := Tryz.underlying60
  a60 := Tryz.isAgg60
  z60 := Tryz.sizeOf60
  v60 := Tryz.zeroValue60
  i60 := by kernel_rfl
  t61 := Tryz.underlying283
  a61 := Tryz.isAgg283
  z61 := Tryz.sizeOf283
  t65 := Tryz.underlying285
  a65 := Tryz.isAgg285
  z65 := Tryz.sizeOf285
  v65 := Tryz.zeroValue285
  i65 := by kernel_rfl
  t66 := Tryz.underlying286
  a66 := Tryz.isAgg286
  z66 := Tryz.sizeOf286
  v66 := Tryz.zeroValue286
  i66 := by kernel_rfl
  t67 := Tryz.underlying129
  a67 := Tryz.isAgg129
  z67 := Tryz.sizeOf129
  v67 := Tryz.zeroValue129
  i67 := by kernel_rfl
  g0 := by kernel_rfl
  m0 := by kernel_rfl
  g1 := by kernel_rfl
  m1 := by kernel_rfl
  g2 := by kernel_rfl
  m2 := by kernel_rfl
  g3 := by kernel_rfl
  m3 := by kernel_rfl
  g4 := by kernel_rfl
  m4 := by kernel_rfl }
open Go.RowKit in
theorem Tryz.strconv_ParseUint_10_at64_ok (s : ByteArray) (hmax : s.size ≤ 9223372036854775806) (u : Nat) (h : Lib.parseUintB 64 s.data.toList = .ok u) (w : World) :
    Calls Tryz.prog 152 #[.string s, .int .i64 10, .int .i64 64] w fun e w' => e = .returned (.tuple #[.int .u64 u, .nilIface]) ∧ (w' = w ∨ w' = Lib.bytesWorld w 5 s) := Any.strconv_ParseUint_10_at64_ok Tryz.laysPu14 s hmax u h w
open Go.RowKit in
theorem Tryz.strconv_ParseUint_10_at64_syntax_var (s : ByteArray) (hlim : s.size ≤ 281474976710656) (h : Lib.parseUintB 64 s.data.toList = Lib.NumEnd.syntax) (tp : TypeId) (p : Value) (w : World) (hvar : w.var? Tryz.prog "strconv.ErrSyntax" = some #[.iface tp p]) :
    Calls Tryz.prog 152 #[.string s, .int .i64 10, .int .i64 64] w fun e w' => ∃ N, e = .returned (.tuple #[.int .u64 0, .iface 269 (.pointer (some ⟨N, 0, none⟩))]) ∧ w.heap.size ≤ N ∧ w'.heap[N]? = some (.cells #[.string ⟨#[80, 97, 114, 115, 101, 85, 105, 110, 116]⟩, .string s, .iface tp p] 273 (0, 0)) ∧ Below w.heap.size w w' := Any.strconv_ParseUint_10_at64_syntax_var Tryz.laysPu14 s hlim h tp p w hvar
open Go.RowKit in
theorem Tryz.strconv_ParseUint_10_at64_range_var (s : ByteArray) (hlim : s.size ≤ 281474976710656) (h : Lib.parseUintB 64 s.data.toList = .range) (tp : TypeId) (p : Value) (w : World) (hvar : w.var? Tryz.prog "strconv.ErrRange" = some #[.iface tp p]) :
    Calls Tryz.prog 152 #[.string s, .int .i64 10, .int .i64 64] w fun e w' => ∃ N, e = .returned (.tuple #[.int .u64 18446744073709551615, .iface 269 (.pointer (some ⟨N, 0, none⟩))]) ∧ w.heap.size ≤ N ∧ w'.heap[N]? = some (.cells #[.string ⟨#[80, 97, 114, 115, 101, 85, 105, 110, 116]⟩, .string s, .iface tp p] 273 (0, 0)) ∧ Below w.heap.size w w' := Any.strconv_ParseUint_10_at64_range_var Tryz.laysPu14 s hlim h tp p w hvar
end Go.Proofs
end
