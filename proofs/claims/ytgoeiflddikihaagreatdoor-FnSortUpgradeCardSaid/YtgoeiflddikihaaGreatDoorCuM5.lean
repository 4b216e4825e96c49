/- Merged by program out of: VIdent, Shelf, VRead, SemP, SemE, SortP. -/
import Derived.Test.YtgoeiflddikihaaGreatDoorCuM4
import Derived.Shelf.Strconv.Itoa0
import Derived.Shelf.Strconv.Itoa1
import Derived.Shelf.LaysM
import Derived.Shelf.Strconv.Itoa2
import Derived.Shelf.Strconv.Itoa3
import Derived.Shelf.Strconv.Clone
import Derived.Shelf.Strconv.SyntaxError
import Derived.Shelf.LaysC
import Derived.Shelf.Strconv.ToError
import Derived.Shelf.Strconv.Lower
import Derived.Shelf.Strconv.ParseUint10
import Derived.Shelf.Strconv.ParseUint10Empty
import Derived.Shelf.Strconv.ParseUint10Any
import Derived.Shelf.Strconv.RangeError
import Derived.Shelf.Strconv.ToErrorRange
import Derived.Ground.MpProg
import Derived.Shelf.Pu.ParseUintPublic10
import Derived.Shelf.Pu.ErrVarParseUint
import Derived.Test.YtgoeiflddikihaaGreatDoorProg
import Derived.Test.YtgoeiflddikihaaGreatDoorCuM2
import Derived.Lib.ParseIntB
import Derived.Deep.CutBlock
import Derived.Deep.CutRange
import Derived.Deep.DeepCutAuto
import Derived.Test.YtgoeiflddikihaaGreatDoorCuM3
section
namespace Go.Proofs.YtgoeiflddikihaaGreatDoor.Ver
open Go.RowKit Go.Proofs.YtgoeiflddikihaaGreatDoor.PFnIntersectAny Go.Proofs.YtgoeiflddikihaaGreatDoorW.PrintWords
def isDig (c : UInt8) : Bool := decide (48 ≤ c.toNat) && decide (c.toNat ≤ 57)
def digN : List UInt8 → Nat
  | [] => 0
  | c :: r => if isDig c then digN r + 1 else 0
def isId (c : UInt8) : Bool := isDig c || (decide (97 ≤ c.toNat) && decide (c.toNat ≤ 122)) || (decide (65 ≤ c.toNat) && decide (c.toNat ≤ 90)) || c.toNat == 45
def identGo : List UInt8 → Nat → Nat → Nat → Nat
  | [], _, n, _ => n
  | c :: r, i, n, p => if isId c then identGo r (i + 1) (i + 1) (p + 1) else if c.toNat = 46 ∧ 0 < p then identGo r (i + 1) n 0 else n
def identN (l : List UInt8) : Nat := identGo l 0 0 0
theorem identGo_le : ∀ (l : List UInt8) (i n p : Nat), n ≤ i → identGo l i n p ≤ i + l.length
  | [], i, n, p, h => by simp [identGo]; omega
  | c :: r, i, n, p, h => by
    simp only [identGo, List.length_cons]
    split
    · have := identGo_le r (i + 1) (i + 1) (p + 1) (by omega); omega
    · split
      · have := identGo_le r (i + 1) n 0 (by omega); omega
      · omega
theorem identN_le (l : List UInt8) : identN l ≤ l.length := by
  have := identGo_le l 0 0 0 (by omega)
  unfold identN; omega
theorem wrap_in {i : Int} (h0 : -9223372036854775808 ≤ i) (h : i ≤ 9223372036854775807) : wrap64 i = i := by
  unfold wrap64
  omega
theorem bt_nat (s : ByteArray) (i : Nat) (h : i < s.size) : bt s (i : Int) = ((s[i]).toNat : Int) := by
  have := bt_at s (i : Int) (by simpa using h)
  rw [← this]; simp
theorem drop_at (s : ByteArray) (i : Nat) (h : i < s.size) : s.data.toList.drop i = s[i] :: s.data.toList.drop (i + 1) := by
  have hl : i < s.data.toList.length := by rw [Array.length_toList]; exact h
  rw [List.drop_eq_getElem_cons hl]
  rfl
theorem ident_tells (s : ByteArray) (hn : s.size ≤ 140737488351232) (d : Nat) : ∀ (k i n p : Nat), i ≤ s.size → n ≤ i → p ≤ i → s.size - i = d → 2 * d < k →
    semver_identifiers.l0 k s (n : Int) (p : Int) (i : Int) = some ((identGo (s.data.toList.drop i) i n p : Nat) : Int) := by
  induction d with
  | zero =>
    intro k i n p hi hni hpi hd hk
    cases k with
    | zero => omega
    | succ k =>
      rw [semver_identifiers.l0, if_neg (by omega), List.drop_eq_nil_of_le (by rw [Array.length_toList]; show s.size ≤ i; omega)]
      rfl
  | succ d ih =>
    intro k i n p hi hni hpi hd hk
    have hlt : i < s.size := by omega
    cases k with
    | zero => omega
    | succ k =>
      cases k with
      | zero => omega
      | succ k =>
        have w1 : wrap64 ((i : Int) + 1) = ((i + 1 : Nat) : Int) := by rw [wrap_in (by omega) (by omega)]; omega
        have w2 : wrap64 ((p : Int) + 1) = ((p + 1 : Nat) : Int) := by rw [wrap_in (by omega) (by omega)]; omega
        rw [drop_at s i hlt, identGo]
        rw [semver_identifiers.l0, if_pos (by omega), if_pos (by omega), bt_nat s i hlt]
        have e1 := ih k (i + 1) (i + 1) (p + 1) (by omega) (by omega) (by omega) (by omega) (by omega)
        have e2 := ih k (i + 1) n 0 (by omega) (by omega) (by omega) (by omega) (by omega)
        simp only [semver_identifiers.j1, w1, w2]
        generalize s[i] = c at *
        by_cases hid : isId c = true
        · rw [if_pos hid]
          simp only [isId, isDig, Bool.or_eq_true, Bool.and_eq_true, decide_eq_true_eq, beq_iff_eq] at hid
          rw [e1]
          by_cases a1 : (48 : Int) ≤ (c.toNat : Int) <;> by_cases a2 : (c.toNat : Int) ≤ 57 <;> by_cases a3 : (97 : Int) ≤ (c.toNat : Int) <;> by_cases a4 : (c.toNat : Int) ≤ 122 <;> by_cases a5 : (65 : Int) ≤ (c.toNat : Int) <;> by_cases a6 : (c.toNat : Int) ≤ 90 <;>
            simp only [a1, a2, a3, a4, a5, a6, if_true, if_false] <;> (have hc : (c.toNat : Int) = 45 := by omega) <;> simp [hc]
        · rw [if_neg hid]
          simp only [isId, isDig, Bool.or_eq_true, Bool.and_eq_true, decide_eq_true_eq, beq_iff_eq] at hid
          have hb : ((c.toNat : Int) == 45) = false := by rw [beq_eq_false_iff_ne]; omega
          have hz : (((0 : Nat) : Int)) = 0 := rfl
          by_cases a1 : (48 : Int) ≤ (c.toNat : Int) <;> by_cases a2 : (c.toNat : Int) ≤ 57 <;> by_cases a3 : (97 : Int) ≤ (c.toNat : Int) <;> by_cases a4 : (c.toNat : Int) ≤ 122 <;> by_cases a5 : (65 : Int) ≤ (c.toNat : Int) <;> by_cases a6 : (c.toNat : Int) ≤ 90 <;>
            first | (exfalso; omega) | skip
          all_goals
            simp only [a1, a2, a3, a4, a5, a6, if_true, if_false, hb]
            by_cases h46 : c.toNat = 46
            · by_cases hp : 0 < p
              · rw [if_neg (by decide), if_pos (by omega), if_pos (by omega), if_pos ⟨h46, hp⟩, ← e2]; rfl
              · rw [if_neg (by decide), if_pos (by omega), if_neg (by omega), if_neg (by omega)]
            · rw [if_neg (by decide), if_neg (by omega), if_neg (by omega)]
theorem ident_any (s : ByteArray) (hn : s.size ≤ 140737488351232) (w : World) :
    Calls Tryz.prog 153 #[.string s] w fun e w' => e = .returned (.int .i64 ((identN s.data.toList : Nat) : Int)) ∧ ∃ n, w' = w.drewN n :=
  (semver_identifiers.calls (2 * s.size + 1) s _ w (ident_tells s hn s.size (2 * s.size + 1) 0 0 0 (by omega) (by omega) (by omega) (by omega) (by omega))).mono fun _ _ ⟨h, hd⟩ => ⟨h, hd.out⟩
end Go.Proofs.YtgoeiflddikihaaGreatDoor.Ver
end
section
namespace Go.Proofs
open Go.Shelf
def Tryz.lays129_ren : Go.Shelf.Ren := ⟨fun | 129 => 131 | n => n, fun | 53 => 46 | 3 => 3 | 4 => 4 | 46 => 209 | 5 => 5 | 9 => 9 | n => n, fun | n => n⟩
theorem Tryz.lays129 : Go.Proofs.Lays.n129 Tryz.prog Tryz.lays129_ren := {
  mixed := by kernel_rfl
  f129 := Tryz.func131.trans (congrArg some (by kernel_rfl))
  t3 := Tryz.underlying3
  a3 := Tryz.isAgg3
  z3 := Tryz.sizeOf3
  v3 := Tryz.zeroValue3
  t4 := Tryz.underlying4
  a4 := Tryz.isAgg4
  z4 := Tryz.sizeOf4
  v4 := Tryz.zeroValue4
  t5 := Tryz.underlying5
  a5 := Tryz.isAgg5
  z5 := Tryz.sizeOf5
  v5 := Tryz.zeroValue5
  t9 := Tryz.underlying9
  a9 := Tryz.isAgg9
  z9 := Tryz.sizeOf9
  v9 := Tryz.zeroValue9
  t46 := Tryz.underlying209
  a46 := Tryz.isAgg209
  z46 := Tryz.sizeOf209
  v46 := Tryz.zeroValue209
  t53 := Tryz.underlying46
  a53 := Tryz.isAgg46
  z53 := Tryz.sizeOf46
  v53 := Tryz.zeroValue46 }
theorem Tryz.bits_Len64 (x : Int) (w : World) (h0 : 0 ≤ x) (h1 : x ≤ 18446744073709551615) :
    Calls Tryz.prog 131 #[.int .u64 x] w fun e w' => e = .returned (.int .i64 (Lib.bitLen x.toNat)) ∧ w' = w := Any.bits_Len64 Tryz.lays129 x w h0 h1
def Tryz.lays283_ren : Go.Shelf.Ren := ⟨fun | 283 => 168 | n => n, fun | 3 => 3 | 9 => 9 | 4 => 4 | n => n, fun | n => n⟩
theorem Tryz.lays283 : Go.Proofs.Lays.n283 Tryz.prog Tryz.lays283_ren := {
  mixed := by kernel_rfl
  f283 := Tryz.func168.trans (congrArg some (by kernel_rfl))
  t3 := Tryz.underlying3
  a3 := Tryz.isAgg3
  z3 := Tryz.sizeOf3
  v3 := Tryz.zeroValue3
  t4 := Tryz.underlying4
  a4 := Tryz.isAgg4
  z4 := Tryz.sizeOf4
  v4 := Tryz.zeroValue4
  t9 := Tryz.underlying9
  a9 := Tryz.isAgg9
  z9 := Tryz.sizeOf9
  v9 := Tryz.zeroValue9 }
open Go.Lib in
theorem Tryz.internal_strconv_small (i : Nat) (h : i < 100) (w : World) :
    Calls Tryz.prog 168 #[.int .i64 i] w fun e w' => e = .returned (.string ⟨(Lib.decDigits i).toArray⟩) ∧ w' = w := Any.internal_strconv_small Tryz.lays283 i h w
def Tryz.laysM284_ren : Go.Shelf.Ren := ⟨fun | 284 => 169 | 129 => 131 | 317 => 172 | 318 => 173 | n => n, fun | 53 => 46 | 3 => 3 | 212 => 282 | 0 => 0 | 4 => 4 | 46 => 209 | 5 => 5 | 9 => 9 | n => n, fun | 17 => 2 | n => n⟩
theorem Tryz.laysM284 : Go.Proofs.LaysM.n284 Tryz.prog Tryz.laysM284_ren := {
  mixed := by kernel_rfl
  f129 := Tryz.func131.trans (congrArg some (by kernel_rfl))
  f284 := Tryz.func169.trans (congrArg some (by kernel_rfl))
  f317 := Tryz.func172.trans (congrArg some (by kernel_rfl))
  f318 := Tryz.func173.trans (congrArg some (by kernel_rfl))
  t0 := Tryz.underlying0
  a0 := Tryz.isAgg0
  z0 := Tryz.sizeOf0
  v0 := Tryz.zeroValue0
  t3 := Tryz.underlying3
  a3 := Tryz.isAgg3
  z3 := Tryz.sizeOf3
  v3 := Tryz.zeroValue3
  t4 := Tryz.underlying4
  a4 := Tryz.isAgg4
  z4 := Tryz.sizeOf4
  v4 := Tryz.zeroValue4
  t5 := Tryz.underlying5
  a5 := Tryz.isAgg5
  z5 := Tryz.sizeOf5
  v5 := Tryz.zeroValue5
  t9 := Tryz.underlying9
  a9 := Tryz.isAgg9
  z9 := Tryz.sizeOf9
  v9 := Tryz.zeroValue9
  t46 := Tryz.underlying209
  a46 := Tryz.isAgg209
  z46 := Tryz.sizeOf209
  v46 := Tryz.zeroValue209
  t53 := Tryz.underlying46
  a53 := Tryz.isAgg46
  z53 := Tryz.sizeOf46
  v53 := Tryz.zeroValue46
  t212 := Tryz.underlying282
  a212 := Tryz.isAgg282
  z212 := Tryz.sizeOf282
  v212 := Tryz.zeroValue282
  g17 := by kernel_rfl
  i0 := by kernel_rfl
  i3 := by kernel_rfl
  i4 := by kernel_rfl
  i5 := by kernel_rfl
  i9 := by kernel_rfl
  i46 := by kernel_rfl
  i53 := by kernel_rfl
  i212 := by kernel_rfl
  m17 := by kernel_rfl }
open Go.Lib in
theorem Tryz.internal_strconv_numDigits (u : Nat) (h1 : 1 ≤ u) (h2 : u < 18446744073709551616) (w : World) (htab : Lib.TabIs Tryz.prog w "internal/strconv.uint64pow10" .u64 Lib.pow10Tab) :
    Calls Tryz.prog 169 #[.int .u64 u] w fun e w' => e = .returned (.int .i64 (Lib.nDigits u)) ∧ w' = w := Any.internal_strconv_numDigits Tryz.laysM284 u h1 h2 w htab
def Tryz.lays285_ren : Go.Shelf.Ren := ⟨fun | 285 => 170 | n => n, fun | 37 => 80 | 53 => 46 | 3 => 3 | 4 => 4 | 51 => 60 | 9 => 9 | 5 => 5 | 0 => 0 | n => n, fun | n => n⟩
theorem Tryz.lays285 : Go.Proofs.Lays.n285 Tryz.prog Tryz.lays285_ren := {
  mixed := by kernel_rfl
  f285 := Tryz.func170.trans (congrArg some (by kernel_rfl))
  t0 := Tryz.underlying0
  a0 := Tryz.isAgg0
  z0 := Tryz.sizeOf0
  v0 := Tryz.zeroValue0
  t3 := Tryz.underlying3
  a3 := Tryz.isAgg3
  z3 := Tryz.sizeOf3
  v3 := Tryz.zeroValue3
  t4 := Tryz.underlying4
  a4 := Tryz.isAgg4
  z4 := Tryz.sizeOf4
  v4 := Tryz.zeroValue4
  t5 := Tryz.underlying5
  a5 := Tryz.isAgg5
  z5 := Tryz.sizeOf5
  v5 := Tryz.zeroValue5
  t9 := Tryz.underlying9
  a9 := Tryz.isAgg9
  z9 := Tryz.sizeOf9
  v9 := Tryz.zeroValue9
  t37 := Tryz.underlying80
  a37 := Tryz.isAgg80
  z37 := Tryz.sizeOf80
  v37 := Tryz.zeroValue80
  t51 := Tryz.underlying60
  a51 := Tryz.isAgg60
  z51 := Tryz.sizeOf60
  v51 := Tryz.zeroValue60
  t53 := Tryz.underlying46
  a53 := Tryz.isAgg46
  z53 := Tryz.sizeOf46
  v53 := Tryz.zeroValue46 }
open Go.RowKit Go.Sort Go.Lib in
theorem Tryz.internal_strconv_formatBase10 (blk off cap : Nat) (u : Nat) (d : Array UInt8) (w : World) (hH : Holds (fun (b : UInt8) => Value.int .u8 (b.toNat : Int)) w blk off d) (hu : u < 10 ^ d.size) (hu64 : u < 18446744073709551616) (hsz : d.size < 4611686018427387904) :
    Calls Tryz.prog 170 #[.slice (some ⟨blk, off, none⟩) d.size cap, .int .u64 u] w fun e w' =>
      e = .returned (.tuple #[]) ∧ ∃ (n v' : Nat) (dk : Array UInt8), w' = (putRow (fun (b : UInt8) => Value.int .u8 (b.toNat : Int)) w blk off dk).drewN n ∧ FmtInv d.size u 0 v' dk := Any.internal_strconv_formatBase10 Tryz.lays285 blk off cap u d w hH hu hu64 hsz
def Tryz.laysPu14_ren : Go.Shelf.Ren := ⟨fun | 14 => 152 | 16 => 156 | 17 => 157 | 19 => 158 | 20 => 159 | 21 => 160 | 22 => 161 | 23 => 162 | 24 => 163 | 25 => 164 | 27 => 165 | 26 => 144 | 28 => 166 | 29 => 167 | 30 => 168 | 31 => 169 | 32 => 170 | 33 => 171 | 35 => 131 | 34 => 172 | 36 => 173 | 37 => 174 | 38 => 175 | 39 => 176 | 40 => 177 | n => n, fun | 9 => 9 | 3 => 3 | 22 => 46 | 24 => 166 | 25 => 257 | 4 => 4 | 34 => 267 | 5 => 5 | 36 => 209 | 37 => 80 | 0 => 0 | 39 => 269 | 21 => 21 | 44 => 273 | 47 => 275 | 50 => 262 | 48 => 260 | 2 => 2 | 52 => 277 | 55 => 279 | 59 => 282 | 60 => 60 | 20 => 20 | 61 => 283 | 65 => 285 | 66 => 286 | 67 => 129 | n => n, fun | 0 => 0 | 1 => 1 | 2 => 2 | 3 => 3 | 4 => 4 | n => n⟩
theorem Tryz.laysPu14 : Go.Proofs.LaysPu.n14 Tryz.prog Tryz.laysPu14_ren := {
  mixed := by kernel_rfl
  f14 := Tryz.func152.trans (congrArg some (by kernel_rfl))
  f16 := Tryz.func156.trans (congrArg some (by kernel_rfl))
  f17 := Tryz.func157.trans (congrArg some (by kernel_rfl))
  f19 := Tryz.func158.trans (congrArg some (by kernel_rfl))
  f20 := Tryz.func159.trans (congrArg some (by kernel_rfl))
  f21 := Tryz.func160.trans (congrArg some (by kernel_rfl))
  f22 := Tryz.func161.trans (congrArg some (by kernel_rfl))
  f23 := Tryz.func162.trans (congrArg some (by kernel_rfl))
  f24 := Tryz.func163.trans (congrArg some (by kernel_rfl))
  f25 := Tryz.func164.trans (congrArg some (by kernel_rfl))
  f26 := Tryz.func144.trans (congrArg some (by kernel_rfl))
  f27 := Tryz.func165.trans (congrArg some (by kernel_rfl))
  f28 := Tryz.func166.trans (congrArg some (by kernel_rfl))
  f29 := Tryz.func167.trans (congrArg some (by kernel_rfl))
  f30 := Tryz.func168.trans (congrArg some (by kernel_rfl))
  f31 := Tryz.func169.trans (congrArg some (by kernel_rfl))
  f32 := Tryz.func170.trans (congrArg some (by kernel_rfl))
  f33 := Tryz.func171.trans (congrArg some (by kernel_rfl))
  f34 := Tryz.func172.trans (congrArg some (by kernel_rfl))
  f35 := Tryz.func131.trans (congrArg some (by kernel_rfl))
  f36 := Tryz.func173.trans (congrArg some (by kernel_rfl))
  f37 := Tryz.func174.trans (congrArg some (by kernel_rfl))
  f38 := Tryz.func175.trans (congrArg some (by kernel_rfl))
  f39 := Tryz.func176.trans (congrArg some (by kernel_rfl))
  f40 := Tryz.func177.trans (congrArg some (by kernel_rfl))
  t0 := Tryz.underlying0
  a0 := Tryz.isAgg0
  z0 := Tryz.sizeOf0
  v0 := Tryz.zeroValue0
  i0 := by kernel_rfl
  t2 := Tryz.underlying2
  a2 := Tryz.isAgg2
  z2 := Tryz.sizeOf2
  v2 := Tryz.zeroValue2
  i2 := by kernel_rfl
  t3 := Tryz.underlying3
  a3 := Tryz.isAgg3
  z3 := Tryz.sizeOf3
  v3 := Tryz.zeroValue3
  i3 := by kernel_rfl
  t4 := Tryz.underlying4
  a4 := Tryz.isAgg4
  z4 := Tryz.sizeOf4
  v4 := Tryz.zeroValue4
  i4 := by kernel_rfl
  t5 := Tryz.underlying5
  a5 := Tryz.isAgg5
  z5 := Tryz.sizeOf5
  v5 := Tryz.zeroValue5
  i5 := by kernel_rfl
  t9 := Tryz.underlying9
  a9 := Tryz.isAgg9
  z9 := Tryz.sizeOf9
  v9 := Tryz.zeroValue9
  i9 := by kernel_rfl
  t20 := Tryz.underlying20
  a20 := Tryz.isAgg20
  z20 := Tryz.sizeOf20
  v20 := Tryz.zeroValue20
  i20 := by kernel_rfl
  t21 := Tryz.underlying21
  a21 := Tryz.isAgg21
  z21 := Tryz.sizeOf21
  v21 := Tryz.zeroValue21
  i21 := by kernel_rfl
  t22 := Tryz.underlying46
  a22 := Tryz.isAgg46
  z22 := Tryz.sizeOf46
  v22 := Tryz.zeroValue46
  i22 := by kernel_rfl
  t24 := Tryz.underlying166
  a24 := Tryz.isAgg166
  z24 := Tryz.sizeOf166
  v24 := Tryz.zeroValue166
  i24 := by kernel_rfl
  t25 := Tryz.underlying257
  a25 := Tryz.isAgg257
  z25 := Tryz.sizeOf257
  v25 := Tryz.zeroValue257
  i25 := by kernel_rfl
  t34 := Tryz.underlying267
  a34 := Tryz.isAgg267
  z34 := Tryz.sizeOf267
  v34 := Tryz.zeroValue267
  i34 := by kernel_rfl
  c34 := by kernel_rfl
  t36 := Tryz.underlying209
  a36 := Tryz.isAgg209
  z36 := Tryz.sizeOf209
  v36 := Tryz.zeroValue209
  i36 := by kernel_rfl
  t37 := Tryz.underlying80
  a37 := Tryz.isAgg80
  z37 := Tryz.sizeOf80
  v37 := Tryz.zeroValue80
  i37 := by kernel_rfl
  t39 := Tryz.underlying269
  a39 := Tryz.isAgg269
  z39 := Tryz.sizeOf269
  v39 := Tryz.zeroValue269
  i39 := by kernel_rfl
  t44 := Tryz.underlying273
  a44 := Tryz.isAgg273
  z44 := Tryz.sizeOf273
  v44 := Tryz.zeroValue273
  i44 := by kernel_rfl
  t47 := Tryz.underlying275
  a47 := Tryz.isAgg275
  z47 := Tryz.sizeOf275
  v47 := Tryz.zeroValue275
  i47 := by kernel_rfl
  t48 := Tryz.underlying260
  a48 := Tryz.isAgg260
  z48 := Tryz.sizeOf260
  v48 := Tryz.zeroValue260
  i48 := by kernel_rfl
  t50 := Tryz.underlying262
  a50 := Tryz.isAgg262
  z50 := Tryz.sizeOf262
  v50 := Tryz.zeroValue262
  i50 := by kernel_rfl
  t52 := Tryz.underlying277
  a52 := Tryz.isAgg277
  z52 := Tryz.sizeOf277
  v52 := Tryz.zeroValue277
  i52 := by kernel_rfl
  t55 := Tryz.underlying279
  a55 := Tryz.isAgg279
  z55 := Tryz.sizeOf279
  v55 := Tryz.zeroValue279
  i55 := by kernel_rfl
  t59 := Tryz.underlying282
  a59 := Tryz.isAgg282
  z59 := Tryz.sizeOf282
  v59 := Tryz.zeroValue282
  i59 := by kernel_rfl
  t60 := Tryz.underlying60
  a60 := Tryz.isAgg60
  z60 := Tryz.sizeOf60
  v60 := Tryz.zeroValue60
  i60 := by kernel_rfl
  t61 := Tryz.underlying283
  a61 := Tryz.isAgg283
  z61 := Tryz.sizeOf283
  t65 := Tryz.underlying285
  a65 := Tryz.isAgg285
  z65 := Tryz.sizeOf285
  v65 := Tryz.zeroValue285
  i65 := by kernel_rfl
  t66 := Tryz.underlying286
  a66 := Tryz.isAgg286
  z66 := Tryz.sizeOf286
  v66 := Tryz.zeroValue286
  i66 := by kernel_rfl
  t67 := Tryz.underlying129
  a67 := Tryz.isAgg129
  z67 := Tryz.sizeOf129
  v67 := Tryz.zeroValue129
  i67 := by kernel_rfl
  g0 := by kernel_rfl
  m0 := by kernel_rfl
  g1 := by kernel_rfl
  m1 := by kernel_rfl
  g2 := by kernel_rfl
  m2 := by kernel_rfl
  g3 := by kernel_rfl
  m3 := by kernel_rfl
  g4 := by kernel_rfl
  m4 := by kernel_rfl }
open Go.RowKit in
theorem Tryz.strconv_ParseUint_10_at64_ok (s : ByteArray) (hmax : s.size ≤ 9223372036854775806) (u : Nat) (h : Lib.parseUintB 64 s.data.toList = .ok u) (w : World) :
    Calls Tryz.prog 152 #[.string s, .int .i64 10, .int .i64 64] w fun e w' => e = .returned (.tuple #[.int .u64 u, .nilIface]) ∧ (w' = w ∨ w' = Lib.bytesWorld w 5 s) := Any.strconv_ParseUint_10_at64_ok Tryz.laysPu14 s hmax u h w
open Go.RowKit in
theorem Tryz.strconv_ParseUint_10_at64_syntax_var (s : ByteArray) (hlim : s.size ≤ 281474976710656) (h : Lib.parseUintB 64 s.data.toList = Lib.NumEnd.syntax) (tp : TypeId) (p : Value) (w : World) (hvar : w.var? Tryz.prog "strconv.ErrSyntax" = some #[.iface tp p]) :
    Calls Tryz.prog 152 #[.string s, .int .i64 10, .int .i64 64] w fun e w' => ∃ N, e = .returned (.tuple #[.int .u64 0, .iface 269 (.pointer (some ⟨N, 0, none⟩))]) ∧ w.heap.size ≤ N ∧ w'.heap[N]? = some (.cells #[.string ⟨#[80, 97, 114, 115, 101, 85, 105, 110, 116]⟩, .string s, .iface tp p] 273 (0, 0)) ∧ Below w.heap.size w w' := Any.strconv_ParseUint_10_at64_syntax_var Tryz.laysPu14 s hlim h tp p w hvar
open Go.RowKit in
theorem Tryz.strconv_ParseUint_10_at64_range_var (s : ByteArray) (hlim : s.size ≤ 281474976710656) (h : Lib.parseUintB 64 s.data.toList = .range) (tp : TypeId) (p : Value) (w : World) (hvar : w.var? Tryz.prog "strconv.ErrRange" = some #[.iface tp p]) :
    Calls Tryz.prog 152 #[.string s, .int .i64 10, .int .i64 64] w fun e w' => ∃ N, e = .returned (.tuple #[.int .u64 18446744073709551615, .iface 269 (.pointer (some ⟨N, 0, none⟩))]) ∧ w.heap.size ≤ N ∧ w'.heap[N]? = some (.cells #[.string ⟨#[80, 97, 114, 115, 101, 85, 105, 110, 116]⟩, .string s, .iface tp p] 273 (0, 0)) ∧ Below w.heap.size w w' := Any.strconv_ParseUint_10_at64_range_var Tryz.laysPu14 s hlim h tp p w hvar
end Go.Proofs
end
section
namespace Go.Proofs.YtgoeiflddikihaaGreatDoor.Ver
open Go.RowKit Go.Proofs.YtgoeiflddikihaaGreatDoor.Dig Go.Proofs.YtgoeiflddikihaaGreatDoorW.PrintWords
theorem new_any (s : ByteArray) (w : World) :
  Calls Tryz.prog 144 #[.string s] w fun e w' => e = .returned (.iface 260 (.pointer (some ⟨w.heap.size, 0, none⟩))) ∧ w' = w.alloc (.cells #[.string s] 262) := by
 go_enter Tryz.func144, Tryz.ntmps144
 go_wp2
 go_ret
 exact ⟨rfl, rfl⟩
def numOf (l : List UInt8) : Option (Nat × List UInt8) :=
 if digN l = 0 then none else match Lib.parseUintB 64 (l.take (digN l)) with
  | .ok u => some (u, l.drop (digN l))
  | _ => none
def goOn : List UInt8 → Bool
 | c :: _ => c == 46
 | [] => false
def nums : Nat → List Nat → List UInt8 → Option (List Nat × List UInt8)
 | 0, _, _ => none
 | m + 1, acc, l => match numOf l with
  | none => none
  | some (a, r) => if goOn r && decide (0 < m) then nums m (acc ++ [a]) (r.drop 1) else some (acc ++ [a], r)
def part (c : UInt8) : List UInt8 → Option (List UInt8 × List UInt8)
 | x :: r => if x = c then (if identN r = 0 then none else some (r.take (identN r), r.drop (identN r))) else some ([], x :: r)
 | [] => some ([], [])
def bare0 : List UInt8 → List UInt8
 | c :: r => if c = 118 then r else c :: r
 | [] => []
def readV (s : ByteArray) : Option (SV × Nat) :=
 match nums 3 [] (bare0 s.data.toList) with
 | none => none
 | some (ns, r) => match part 45 r with
  | none => none
  | some (pre, r1) => match part 43 r1 with
   | none => none
   | some (mt, r2) => if r2 = [] then some (⟨ns.getD 0 0, ns.getD 1 0, ns.getD 2 0, ⟨pre.toArray⟩, ⟨mt.toArray⟩, s⟩, ns.length) else none
abbrev zSV : Array Value := #[.int .u64 0, .int .u64 0, .int .u64 0, .string ⟨#[]⟩, .string ⟨#[]⟩, .string ⟨#[]⟩]
abbrev bSV (a b c : Int) (pre mt s : ByteArray) : Obj := .cells #[.int .u64 a, .int .u64 b, .int .u64 c, .string pre, .string mt, .string s] 197 (0, 0)
structure Own (w wx : World) (a b c : Int) (pre mt s : ByteArray) : Prop where
 bel : Below w.heap.size w wx
 res : wx.heap[w.heap.size]? = some (.cells zSV 197 (0, 0))
 ver : wx.heap[w.heap.size + 1 + 1]? = some (bSV a b c pre mt s)
theorem alloc_at (w : World) (o : Obj) : (w.alloc o).heap[w.heap.size]? = some o := by
 show (w.heap.push o)[w.heap.size]? = _
 simp
theorem alloc_size (w : World) (o : Obj) : (w.alloc o).heap.size = w.heap.size + 1 := by
 show (w.heap.push o).size = _
 simp
theorem own_start (w : World) (err : Obj) (s : ByteArray) : Own w (((w.alloc (.cells zSV 197)).alloc err).alloc (.cells #[.int .u64 0, .int .u64 0, .int .u64 0, .string ⟨#[]⟩, .string ⟨#[]⟩, .string s] 197)) 0 0 0 ⟨#[]⟩ ⟨#[]⟩ s := by
 have e1 := alloc_size w (.cells zSV 197)
 have e2 := alloc_size (w.alloc (.cells zSV 197)) err
 refine ⟨below_alloc (below_alloc (below_alloc (Below.refl _ _) _) _) _, ?_, ?_⟩
 ·rw [Below.heap_alloc _ _ _ (by omega), Below.heap_alloc _ _ _ (by omega)]; exact alloc_at w _
 ·rw [← e1, ← e2]; exact alloc_at _ _
theorem bare0_size (s : ByteArray) : (bare0 s.data.toList).length ≤ s.size := by
 have : s.data.toList.length = s.size := Array.length_toList
 cases h : s.data.toList with
 | nil => simp [bare0]
 | cons c r => rw [h] at this; simp only [bare0]; split <;> (simp at this ⊢; omega)
theorem bare0_v {s : ByteArray} (h : 0 < s.size) (hc : (s[0]).toNat = 118) : (s.extract 1 s.size).data.toList = bare0 s.data.toList := by
 have e := drop_at s 0 h
 rw [List.drop_zero] at e
 rw [e, bare0, if_pos (UInt8.toNat_inj.1 (by rw [hc]; rfl)), ByteArray.data_extract, Array.toList_extract]
 simp only [List.extract_eq_take_drop]
 rw [List.take_of_length_le (by rw [List.length_drop, Array.length_toList]; exact Nat.le_refl _)]
theorem bare0_not {s : ByteArray} (h : 0 < s.size) (hc : (s[0]).toNat ≠ 118) : s.data.toList = bare0 s.data.toList := by
 have e := drop_at s 0 h
 rw [List.drop_zero] at e
 rw [e, bare0, if_neg (fun e => hc (by rw [e]; rfl))]
theorem bare0_nil {s : ByteArray} (h : s.size = 0) : s.data.toList = bare0 s.data.toList := by
 have : s.data.toList = [] := List.length_eq_zero_iff.1 (by rw [Array.length_toList]; exact h)
 rw [this]; rfl
def begins (l : List UInt8) (c : Nat) : Bool := match l with
 | x :: _ => x.toNat == c
 | [] => false
theorem begins_nil {s : ByteArray} {c : Nat} (h : s.size = 0) : begins s.data.toList c = false := by
 have : s.data.toList = [] := List.length_eq_zero_iff.1 (by rw [Array.length_toList]; exact h)
 rw [this]; rfl
theorem begins_at {s : ByteArray} {c : Nat} (h : 0 < s.size) : begins s.data.toList c = ((s[0]).toNat == c) := by
 have e := drop_at s 0 h
 rw [List.drop_zero] at e
 rw [e]; rfl
theorem isEmpty_true {s : ByteArray} (h : s.size = 0) : s.toList.isEmpty = true := by
 have : s.data.toList = [] := List.length_eq_zero_iff.1 (by rw [Array.length_toList]; exact h)
 rw [ByteArray.toList_eq, this]; rfl
theorem isEmpty_false {s : ByteArray} (h : 0 < s.size) : s.toList.isEmpty = false := by
 have e := drop_at s 0 h
 rw [List.drop_zero] at e
 rw [ByteArray.toList_eq, e]; rfl
theorem begins_pos {s : ByteArray} {c : Nat} (h : begins s.data.toList c = true) : 0 < s.size := by
 rcases Nat.eq_zero_or_pos s.size with h0 | h0
 ·rw [begins_nil h0] at h; cases h
 ·exact h0
theorem begins_one {s : ByteArray} {c : Nat} (h : begins s.data.toList c = true) (h0 : 0 < s.size) : (s[0]).toNat = c := by
 rw [begins_at h0] at h
 exact beq_iff_eq.1 h
theorem bare0_of_not {s : ByteArray} (h : begins s.data.toList 118 = false) : s.data.toList = bare0 s.data.toList := by
 rcases Nat.eq_zero_or_pos s.size with h0 | h0
 ·exact bare0_nil h0
 ·rw [begins_at h0] at h
  exact bare0_not h0 (beq_eq_false_iff_ne.1 h)
theorem cast_beq (a b : Nat) : ((a : Int) == (b : Int)) = (a == b) := by
 by_cases h : a = b
 ·simp [h]
 ·rw [beq_eq_false_iff_ne.2 h, beq_eq_false_iff_ne]; omega
def ReadEnd (s : ByteArray) (w : World) (e : Ending) (w' : World) : Prop :=
 Below w.heap.size w w' ∧ match readV s with
  | none => ∃ a, e = .returned (.tuple #[.agg zSV, .int .i64 0, .iface 260 (.pointer (some a))])
  | some (v, k) => e = .returned (.tuple #[.agg v.cells, .int .i64 (k : Int), .nilIface])
theorem readEnd_bad {s : ByteArray} {w w' : World} {a : Addr} (h : readV s = none) (hb : Below w.heap.size w w') : ReadEnd s w (.returned (.tuple #[.agg zSV, .int .i64 0, .iface 260 (.pointer (some a))])) w' := by
 refine ⟨hb, ?_⟩
 rw [h]; exact ⟨a, rfl⟩
theorem readV_none {s : ByteArray} (h : nums 3 [] (bare0 s.data.toList) = none) : readV s = none := by unfold readV; rw [h]
theorem digN_le : ∀ l : List UInt8, digN l ≤ l.length
 | [] => Nat.le_refl _
 | c :: r => by simp only [digN]; split <;> simp [digN_le r]
theorem digN_step {s : ByteArray} {i : Nat} (h : i < s.size) : digN (s.data.toList.drop i) = if 48 ≤ (s[i]).toNat ∧ (s[i]).toNat ≤ 57 then digN (s.data.toList.drop (i + 1)) + 1 else 0 := by
 rw [drop_at s i h, digN]
 simp only [isDig, Bool.and_eq_true, decide_eq_true_eq]
theorem digN_end {s : ByteArray} {i : Nat} (h : ¬ i < s.size) : digN (s.data.toList.drop i) = 0 := by
 rw [List.drop_eq_nil_of_le (by rw [Array.length_toList]; exact Nat.not_lt.1 h)]
 rfl
theorem take_data (s : ByteArray) (n : Nat) : (s.extract 0 n).data.toList = s.data.toList.take n := by
 rw [ByteArray.data_extract, Array.toList_extract]
 simp only [List.extract_eq_take_drop]
 simp
theorem drop_data (s : ByteArray) (n : Nat) : (s.extract n s.size).data.toList = s.data.toList.drop n := by
 rw [ByteArray.data_extract, Array.toList_extract]
 simp only [List.extract_eq_take_drop]
 rw [List.take_of_length_le (by rw [List.length_drop, Array.length_toList]; exact Nat.le_refl _)]
theorem uint_any (s : ByteArray) (hs : s.size ≤ 2147483647) (w : World) (hv : Vars w) : Calls Tryz.prog 152 #[.string s, .int .i64 10, .int .i64 64] w fun e w' => ∃ (n : Int) (err : Value), e = .returned (.tuple #[.int .u64 n, err]) ∧ Below w.heap.size w w' ∧
  ((∃ u : Nat, n = u ∧ Lib.parseUintB 64 s.data.toList = .ok u ∧ err = .nilIface) ∨ ((∀ u, Lib.parseUintB 64 s.data.toList ≠ .ok u) ∧ ∃ t a, err = .iface t (.pointer (some a)))) := by
 obtain ⟨⟨t1, p1, h1⟩, ⟨t2, p2, h2⟩, h3⟩ := hv
 rcases h : Lib.parseUintB 64 s.data.toList with v | _ | _
 ·refine (Tryz.strconv_ParseUint_10_at64_ok s (by omega) v h w).mono ?_
  rintro e w' ⟨rfl, hw⟩
  refine ⟨v, .nilIface, rfl, ?_, .inl ⟨v, rfl, rfl, rfl⟩⟩
  rcases hw with rfl | rfl
  ·exact Below.refl _ _
  ·exact Lib.bytesWorld_below _ _ _
 ·refine (Tryz.strconv_ParseUint_10_at64_syntax_var s (by omega) h t1 p1 w h1).mono ?_
  rintro e w' ⟨N, rfl, _, _, hb⟩
  exact ⟨_, _, rfl, hb, .inr ⟨(fun u e => by cases e), _, _, rfl⟩⟩
 ·refine (Tryz.strconv_ParseUint_10_at64_range_var s (by omega) h t2 p2 w h2).mono ?_
  rintro e w' ⟨N, rfl, _, _, hb⟩
  exact ⟨_, _, rfl, hb, .inr ⟨(fun u e => by cases e), _, _, rfl⟩⟩
theorem Own.below {w wx wy : World} {a b c : Int} {pre mt s : ByteArray} (h : Own w wx a b c pre mt s) (hb : Below wx.heap.size wx wy) : Own w wy a b c pre mt s :=
 ⟨below_step h.bel hb, blk_below h.res hb, blk_below h.ver hb⟩
theorem Own.drewN {w wx : World} {a b c : Int} {pre mt s : ByteArray} (h : Own w wx a b c pre mt s) (n : Nat) : Own w (wx.drewN n) a b c pre mt s := h.below (pw_below_drewN (Below.refl _ _) n)
theorem back_bytes (b : ByteArray) : (⟨b.data.toList.toArray⟩ : ByteArray) = b := by apply ByteArray.ext; simp
theorem own_ne (w : World) : w.heap.size ≠ w.heap.size + 1 + 1 := by omega
theorem Own.put0 {w wx : World} {a b c : Int} {pre mt s : ByteArray} (h : Own w wx a b c pre mt s) (u : Int) : Own w (wx.setCell ⟨w.heap.size + 1 + 1, 0, none⟩ (.int .u64 u)) u b c pre mt s :=
 ⟨h.bel.setCell (by simp; omega) _, blk_far h.res (own_ne w) _, blk_put h.ver 0 _ rfl⟩
theorem Own.put1 {w wx : World} {a b c : Int} {pre mt s : ByteArray} (h : Own w wx a b c pre mt s) (u : Int) : Own w (wx.setCell ⟨w.heap.size + 1 + 1, 1, none⟩ (.int .u64 u)) a u c pre mt s :=
 ⟨h.bel.setCell (by simp; omega) _, blk_far h.res (own_ne w) _, blk_put h.ver 1 _ rfl⟩
theorem Own.put2 {w wx : World} {a b c : Int} {pre mt s : ByteArray} (h : Own w wx a b c pre mt s) (u : Int) : Own w (wx.setCell ⟨w.heap.size + 1 + 1, 2, none⟩ (.int .u64 u)) a b u pre mt s :=
 ⟨h.bel.setCell (by simp; omega) _, blk_far h.res (own_ne w) _, blk_put h.ver 2 _ rfl⟩
theorem Own.put3 {w wx : World} {a b c : Int} {pre mt s : ByteArray} (h : Own w wx a b c pre mt s) (u : ByteArray) : Own w (wx.setCell ⟨w.heap.size + 1 + 1, 3, none⟩ (.string u)) a b c u mt s :=
 ⟨h.bel.setCell (by simp; omega) _, blk_far h.res (own_ne w) _, blk_put h.ver 3 _ rfl⟩
theorem Own.put4 {w wx : World} {a b c : Int} {pre mt s : ByteArray} (h : Own w wx a b c pre mt s) (u : ByteArray) : Own w (wx.setCell ⟨w.heap.size + 1 + 1, 4, none⟩ (.string u)) a b c pre u s :=
 ⟨h.bel.setCell (by simp; omega) _, blk_far h.res (own_ne w) _, blk_put h.ver 4 _ rfl⟩
theorem cut_from (s : ByteArray) (n : Nat) (h : n ≤ s.size) (W : World) : (Instr.slice 9 (.string s) (some (.int .i64 (n : Int))) none none).run Tryz.prog W = .ok (.string (s.extract n s.size)) W := by
 rw [run_slice_string_from_if W 9 s .i64 (n : Int) Tryz.underlying9]
 rw [if_pos (by omega)]
 simp
theorem three_of {acc : List Nat} (h : acc.length ≤ 2) : acc = [] ∨ (∃ a, acc = [a]) ∨ ∃ a b, acc = [a, b] := by
 match acc, h with
 | [], _ => exact .inl rfl
 | [a], _ => exact .inr (.inl ⟨a, rfl⟩)
 | [a, b], _ => exact .inr (.inr ⟨a, b, rfl⟩)
theorem cut_mid (s : ByteArray) (i j : Nat) (h : i ≤ j) (h2 : j ≤ s.size) (W : World) : (Instr.slice 9 (.string s) (some (.int .i64 (i : Int))) (some (.int .i64 (j : Int))) none).run Tryz.prog W = .ok (.string (s.extract i j)) W := by
 rw [run_slice_string W 9 s .i64 .i64 _ _ Tryz.underlying9 (by omega) (by omega) (by omega)]
 simp
theorem ident_size (s : ByteArray) : identN s.data.toList ≤ s.size := by
 have h := identN_le s.data.toList
 have e : s.data.toList.length = s.size := Array.length_toList
 omega
theorem part_not {s : ByteArray} {c : UInt8} (h : begins s.data.toList c.toNat = false) : part c s.data.toList = some ([], s.data.toList) := by
 cases e : s.data.toList with
 | nil => rfl
 | cons x r =>
  rw [e] at h
  rw [part, if_neg (fun hx => by rw [hx] at h; simp [begins] at h)]
theorem begins_list {s : ByteArray} {c : UInt8} (h : begins s.data.toList c.toNat = true) : s.data.toList = c :: s.data.toList.drop 1 := by
 have h0 := begins_pos h
 have e := drop_at s 0 h0
 rw [List.drop_zero] at e
 conv => lhs; rw [e]
 rw [UInt8.toNat_inj.1 (begins_one h h0)]
theorem part_bad {s : ByteArray} {c : UInt8} (h : begins s.data.toList c.toNat = true) (hn : identN (s.extract 1 s.size).data.toList = 0) : part c s.data.toList = none := by
 rw [drop_data] at hn
 rw [begins_list h, part, if_pos rfl, if_pos hn]
theorem part_is {s : ByteArray} {c : UInt8} (h : begins s.data.toList c.toNat = true) (hn : identN (s.extract 1 s.size).data.toList ≠ 0) :
  part c s.data.toList = some ((s.extract 1 (1 + identN (s.extract 1 s.size).data.toList)).data.toList, (s.extract (1 + identN (s.extract 1 s.size).data.toList) s.size).data.toList) := by
 rw [drop_data] at hn
 rw [drop_data, drop_data]
 have e1 : ∀ n, (s.extract 1 (1 + n)).data.toList = (s.data.toList.drop 1).take n := by
  intro n
  rw [ByteArray.data_extract, Array.toList_extract]
  simp only [List.extract_eq_take_drop]
  rw [show 1 + n - 1 = n by omega]
 rw [e1, ← List.drop_drop]
 have e := begins_list h
 generalize s.data.toList.drop 1 = q at *
 rw [e, part, if_pos rfl, if_neg hn]
theorem readV_pre {s : ByteArray} {ns : List Nat} {r : List UInt8} (h : nums 3 [] (bare0 s.data.toList) = some (ns, r)) (h2 : part 45 r = none) : readV s = none := by unfold readV; rw [h]; simp only; rw [h2]
theorem readV_mt {s : ByteArray} {ns : List Nat} {r pre r1 : List UInt8} (h : nums 3 [] (bare0 s.data.toList) = some (ns, r)) (h2 : part 45 r = some (pre, r1)) (h3 : part 43 r1 = none) : readV s = none := by unfold readV; rw [h]; simp only; rw [h2]; simp only; rw [h3]
theorem readV_rest {s : ByteArray} {ns : List Nat} {r pre r1 mt r2 : List UInt8} (h : nums 3 [] (bare0 s.data.toList) = some (ns, r)) (h2 : part 45 r = some (pre, r1)) (h3 : part 43 r1 = some (mt, r2)) (h4 : r2 ≠ []) : readV s = none := by
 unfold readV; rw [h]; simp only; rw [h2]; simp only; rw [h3]; simp only; rw [if_neg h4]
theorem readV_ok {s : ByteArray} {ns : List Nat} {r pre r1 mt r2 : List UInt8} (h : nums 3 [] (bare0 s.data.toList) = some (ns, r)) (h2 : part 45 r = some (pre, r1)) (h3 : part 43 r1 = some (mt, r2)) (h4 : r2 = []) :
  readV s = some (⟨(ns.getD 0 0 : Nat), (ns.getD 1 0 : Nat), (ns.getD 2 0 : Nat), ⟨pre.toArray⟩, ⟨mt.toArray⟩, s⟩, ns.length) := by
 unfold readV; rw [h]; simp only; rw [h2]; simp only; rw [h3]; simp only; rw [if_pos h4]
theorem list_nil {s : ByteArray} (h : s.size = 0) : s.data.toList = [] := List.length_eq_zero_iff.1 (by rw [Array.length_toList]; exact h)
theorem list_some {s : ByteArray} (h : 0 < s.size) : s.data.toList ≠ [] := fun e => by
 have h1 : s.data.toList.length = s.size := Array.length_toList
 rw [e, List.length_nil] at h1
 omega
theorem readEnd_good {s : ByteArray} {w w' : World} {v : SV} {k : Nat} (h : readV s = some (v, k)) (hb : Below w.heap.size w w') : ReadEnd s w (.returned (.tuple #[.agg v.cells, .int .i64 (k : Int), .nilIface])) w' := by
 refine ⟨hb, ?_⟩
 rw [h]
theorem numOf_zero {l : List UInt8} (h : digN l = 0) : numOf l = none := by unfold numOf; rw [if_pos h]
theorem numOf_bad {l : List UInt8} (h : ∀ u, Lib.parseUintB 64 (l.take (digN l)) ≠ .ok u) : numOf l = none := by
 unfold numOf
 split
 ·rfl
 ·split
  ·rename_i u hu; exact absurd hu (h u)
  ·rfl
theorem numOf_ok {l : List UInt8} {u : Nat} (h0 : digN l ≠ 0) (h : Lib.parseUintB 64 (l.take (digN l)) = .ok u) : numOf l = some (u, l.drop (digN l)) := by
 unfold numOf
 rw [if_neg h0, h]
theorem nums_none {m : Nat} {acc : List Nat} {l : List UInt8} (h : numOf l = none) : nums (m + 1) acc l = none := by rw [nums, h]
theorem nums_stop {m : Nat} {acc : List Nat} {l r : List UInt8} {u : Nat} (h : numOf l = some (u, r)) (hs : goOn r = false ∨ m = 0) : nums (m + 1) acc l = some (acc ++ [u], r) := by
 rw [nums, h]
 rcases hs with hs | hs
 ·simp [hs]
 ·simp [hs]
theorem nums_on {m : Nat} {acc : List Nat} {l r : List UInt8} {u : Nat} (h : numOf l = some (u, r)) (hs : goOn r = true) (hm : 0 < m) : nums (m + 1) acc l = nums m (acc ++ [u]) (r.drop 1) := by
 rw [nums, h]
 simp [hs, hm]
theorem goOn_begins (l : List UInt8) : goOn l = begins l 46 := by
 cases l with
 | nil => rfl
 | cons c r =>
  simp only [goOn, begins]
  by_cases h : c = 46
  ·subst h; rfl
  ·rw [beq_eq_false_iff_ne.2 h, beq_eq_false_iff_ne.2 (fun e => h (UInt8.toNat_inj.1 (by rw [e]; rfl)))]
set_option maxRecDepth 20000 in
set_option maxHeartbeats 4000000 in
theorem read_any (s : ByteArray) (hs : s.size ≤ 2147483647) (w : World) (hv : Vars w) : Calls Tryz.prog 143 #[.string s] w (ReadEnd s w) := by
 go_enter Tryz.func143, Tryz.ntmps143
 go_upto_region 3 with (go_at_call 144; ((with_reducible refine (new_any _ _).mono ?_); rintro e w1 ⟨rfl, rfl⟩))
 go_cut [26] from 20 to 26 (fun v26 wx => v26 = .bool (begins s.data.toList 118) ∧ Aside0 (Own w wx 0 0 0 ⟨#[]⟩ ⟨#[]⟩ s))
 case first =>
  rcases Nat.eq_zero_or_pos s.size with h0 | h0
  ·have hem := isEmpty_true h0
   have hbg := begins_nil (c := 118) h0
   go_wp2_with fail
   go_meet
   case rel => exact ⟨by rw [hbg], ⟨own_start w _ s⟩⟩
  ·have hem := isEmpty_false h0
   have hbg := begins_at (c := 118) h0
   rw [← cast_beq] at hbg
   have HBG := Lib.hid hbg
   clear hbg
   go_wp2_with fail
   go_meet
   case rel => exact ⟨by rw [HBG.out]; rfl, ⟨own_start w _ s⟩⟩
 case rest =>
  obtain ⟨rfl, HO⟩ := hcut
  go_upto_if 26 with fail
  go_cut [7] from 26 to 28 (fun v7 wx => ∃ r : ByteArray, v7 = .string r ∧ r.size ≤ 2147483647 ∧ r.data.toList = bare0 s.data.toList ∧ Aside0 (Own w wx 0 0 0 ⟨#[]⟩ ⟨#[]⟩ s))
  case first =>
   cases hq : begins s.data.toList 118 with
   | false =>
    go_wp2_with fail
    go_meet
    case rel => exact ⟨s, rfl, hs, bare0_of_not hq, HO⟩
   | true =>
    have h0 := begins_pos hq
    go_wp2_with fail
    go_meet
    case rel => exact ⟨_, rfl, by simp only [ByteArray.size_extract]; omega, bare0_v h0 (begins_one hq h0), HO⟩
  case rest =>
   obtain ⟨r, rfl, hr, hrl, HO⟩ := hcut
   have HRL := Lib.hid hrl
   have HNE := Lib.hid (show wc.heap.size ≠ w.heap.size + 1 + 1 from Nat.ne_of_gt (blk_lt HO.out.ver))
   have HV := Lib.hid hv
   clear hrl hv
   go_upto_block 0 with fail
   go_cut [7, 8, 10, 11, 12, 13] from 34 to 92 (fun v7 v8 _ _ _ _ wx => ∃ (r1 : ByteArray) (ns : List Nat), v7 = .string r1 ∧ v8 = .int .i64 (ns.length : Int) ∧ r1.size ≤ 2147483647 ∧ Aside0 (nums 3 [] r.data.toList = some (ns, r1.data.toList)) ∧ Aside0 (Own w wx (ns.getD 0 0 : Nat) (ns.getD 1 0 : Nat) (ns.getD 2 0 : Nat) ⟨#[]⟩ ⟨#[]⟩ s))
   case first =>
    go_wp2_with fail
    go_loopw [7, 8, 34] (fun v7 v8 v34 wr => ∃ (r1 : ByteArray) (acc : List Nat), v7 = .string r1 ∧ v8 = .int .i64 (acc.length : Int) ∧ v34 = .int .i64 (acc.length : Int) ∧ acc.length ≤ 2 ∧ r1.size ≤ 2147483647 ∧ Aside0 (nums (3 - acc.length) acc r1.data.toList = nums 3 [] r.data.toList) ∧ Aside0 (Own w wr (acc.getD 0 0 : Nat) (acc.getD 1 0 : Nat) (acc.getD 2 0 : Nat) ⟨#[]⟩ ⟨#[]⟩ s) ∧ Aside0 (wr.heap[wc.heap.size]? = some (.cells #[.pointer (some ⟨w.heap.size + 1 + 1, 0, none⟩), .pointer (some ⟨w.heap.size + 1 + 1, 1, none⟩), .pointer (some ⟨w.heap.size + 1 + 1, 2, none⟩)] 255 (0, 0)))) (fun _ _ v34 _ => 3 - (intOf v34).toNat)
    case atStart => exact ⟨r, [], rfl, rfl, rfl, by simp, hr, ⟨rfl⟩, ⟨HO.out.below (below_alloc (Below.refl _ _) _)⟩, ⟨alloc_at _ _⟩⟩
    case round =>
     clear HO
     obtain ⟨r1, acc, rfl, hv8, hv34, hk, hr1, HN, HO, HP⟩ := hrel
     have hacc : acc = [] ∨ (∃ a, acc = [a]) ∨ ∃ a b, acc = [a, b] := three_of hk
     clear hk
     rcases hacc with rfl | ⟨a, rfl⟩ | ⟨a, b, rfl⟩ <;> simp only [List.length_nil, List.length_cons] at hv8 hv34
     all_goals
      subst hv8 hv34
     ·-- number 0
      have hp := blk_cell HP.out 0
      go_upto_block 2 with fail
      go_cut [11] from 38 to 55 (fun v11 wx => v11 = .int .i64 ((digN r1.data.toList : Nat) : Int) ∧ Aside0 (Own w wx ([].getD 0 0 : Nat) ([].getD 1 0 : Nat) ([].getD 2 0 : Nat) ⟨#[]⟩ ⟨#[]⟩ s) ∧ Aside0 (wx.heap[wc.heap.size]? = some (.cells #[.pointer (some ⟨w.heap.size + 1 + 1, 0, none⟩), .pointer (some ⟨w.heap.size + 1 + 1, 1, none⟩), .pointer (some ⟨w.heap.size + 1 + 1, 2, none⟩)] 255 (0, 0))))
      case first =>
       clear hp
       go_wp2_with fail
       go_loopw [11] (fun v11 wr2 => ∃ i : Nat, v11 = .int .i64 (i : Int) ∧ i ≤ r1.size ∧ Aside0 (digN r1.data.toList = i + digN (r1.data.toList.drop i)) ∧ Aside0 (Own w wr2 ([].getD 0 0 : Nat) ([].getD 1 0 : Nat) ([].getD 2 0 : Nat) ⟨#[]⟩ ⟨#[]⟩ s) ∧ Aside0 (wr2.heap[wc.heap.size]? = some (.cells #[.pointer (some ⟨w.heap.size + 1 + 1, 0, none⟩), .pointer (some ⟨w.heap.size + 1 + 1, 1, none⟩), .pointer (some ⟨w.heap.size + 1 + 1, 2, none⟩)] 255 (0, 0)))) (fun v11 _ => r1.size - (intOf v11).toNat)
       case atStart => exact ⟨0, rfl, by omega, ⟨by simp⟩, HO, HP⟩
       case round =>
        obtain ⟨i, rfl, hi, HD, HO, HP⟩ := hrel
        by_cases hlt : i < r1.size
        ·have HS := Lib.hid (digN_step hlt)
         by_cases q1 : 48 ≤ (r1[i]).toNat
         ·by_cases q2 : (r1[i]).toNat ≤ 57
          ·have q3 : decide ((48 : Int) ≤ ((r1[i]).toNat : Int)) = true := decide_eq_true (by omega)
           have q4 : decide (((r1[i]).toNat : Int) ≤ 57) = true := decide_eq_true (by omega)
           have HD2 := Aside0.mk (show digN r1.data.toList = (i + 1) + digN (r1.data.toList.drop (i + 1)) by rw [HD.out, HS.out, if_pos ⟨q1, q2⟩]; omega)
           clear q1 q2
           go_wp2_with fail
           go_roundw
           case rel => exact ⟨i + 1, by simp, by omega, HD2, HO, HP⟩
           case measure => simp [intOf]; omega
          ·have q3 : decide ((48 : Int) ≤ ((r1[i]).toNat : Int)) = true := decide_eq_true (by omega)
           have q4 : decide (((r1[i]).toNat : Int) ≤ 57) = false := decide_eq_false (by omega)
           have HE := Aside0.mk (show digN r1.data.toList = i by rw [HD.out, HS.out, if_neg (fun h => q2 h.2)]; omega)
           clear q1 q2
           go_wp2_with fail
           go_meet
           case rel => exact ⟨by rw [HE.out], HO, HP⟩
         ·have q3 : decide ((48 : Int) ≤ ((r1[i]).toNat : Int)) = false := decide_eq_false (by omega)
          have HE := Aside0.mk (show digN r1.data.toList = i by rw [HD.out, HS.out, if_neg (fun h => q1 h.1)]; omega)
          clear q1
          go_wp2_with fail
          go_meet
          case rel => exact ⟨by rw [HE.out], HO, HP⟩
        ·have HE := Aside0.mk (show digN r1.data.toList = i by rw [HD.out, digN_end hlt]; omega)
         go_wp2_with fail
         go_meet
         case rel => exact ⟨by rw [HE.out], HO, HP⟩
      case rest =>
       clear hp HO HP
       obtain ⟨rfl, HO, HP⟩ := hcut
       have hnl := digN_le r1.data.toList
       have hnl2 : digN r1.data.toList ≤ r1.size := by
        have e : r1.data.toList.length = r1.size := Array.length_toList
        omega
       clear hnl
       by_cases hn0 : digN r1.data.toList = 0
       ·have HBAD := Lib.hid (readV_none (s := s) (by rw [← HRL.out, ← HN.out]; exact nums_none (m := 2) (numOf_zero hn0)))
        have q0 : (((digN r1.data.toList : Nat) : Int) == 0) = true := by rw [hn0]; rfl
        clear hn0
        generalize digN r1.data.toList = n at *
        have r0 := blk_cell (HO.out).res 0
        have t0 := blk_frozen (HO.out).res 0
        have r1 := blk_cell (HO.out).res 1
        have t1 := blk_frozen (HO.out).res 1
        have r2 := blk_cell (HO.out).res 2
        have t2 := blk_frozen (HO.out).res 2
        have r3 := blk_cell (HO.out).res 3
        have t3 := blk_frozen (HO.out).res 3
        have r4 := blk_cell (HO.out).res 4
        have t4 := blk_frozen (HO.out).res 4
        have r5 := blk_cell (HO.out).res 5
        have t5 := blk_frozen (HO.out).res 5
        go_wp2_with fail
        refine bodyPost_ret (v := .tuple #[.agg zSV, .int .i64 0, .iface 260 (.pointer (some ⟨w.heap.size + 1, 0, none⟩))]) (by simp [results, Tryz.results143, go_sem, *]) rfl (readEnd_bad HBAD.out ?_)
        exact ((((((HO.out.bel).setCell (Nat.le_refl _) _).setCell (Nat.le_refl _) _).setCell (Nat.le_refl _) _).setCell (Nat.le_refl _) _).setCell (Nat.le_refl _) _).setCell (Nat.le_refl _) _
       ·have q0 : (((digN r1.data.toList : Nat) : Int) == 0) = false := by rw [beq_eq_false_iff_ne]; omega
        have HU := Lib.hid (fun (u : Nat) (h : Lib.parseUintB 64 (r1.extract 0 (digN r1.data.toList)).data.toList = .ok u) => numOf_ok (l := r1.data.toList) hn0 (by rw [take_data] at h; exact h))
        have HW := Lib.hid (fun (h : ∀ u : Nat, Lib.parseUintB 64 (r1.extract 0 (digN r1.data.toList)).data.toList ≠ .ok u) => numOf_bad (l := r1.data.toList) (by rw [take_data] at h; exact h))
        have HDD := Lib.hid (drop_data r1 (digN r1.data.toList))
        have hcut := cut_from r1 (digN r1.data.toList) hnl2
        have CU := Lib.hid (uint_any (r1.extract 0 (digN r1.data.toList)) (by simp only [ByteArray.size_extract]; omega) wc (HV.out.below HO.out.bel))
        clear hn0
        have hms : (r1.extract (digN r1.data.toList) r1.size).size ≤ 2147483647 := by simp only [ByteArray.size_extract]; omega
        generalize digN r1.data.toList = n at *
        go_wp2_with (first | (go_at_call 152; ((with_reducible refine CU.out.mono ?_); rintro e w5 ⟨nn, err, rfl, hb, hor⟩; refine Hid.out ?_)))
        have HO5 := Aside0.mk (HO.out.below hb)
        have HP5 := Aside0.mk (blk_below HP.out hb)
        have HOR := Lib.hid hor
        clear hb hor CU
        rcases HOR.out with ⟨u, rfl, hu, rfl⟩ | ⟨hno, tt, ad, rfl⟩
        ·have HNU := Lib.hid (HU.out u hu)
         clear hu HOR HU HW
         have x0 := blk_cell HO5.out.ver 0
         have y0 := blk_frozen HO5.out.ver 0
         have HO6 := Aside0.mk (HO5.out.put0 (u : Int))
         have HP6 := Aside0.mk (blk_far HP5.out (p := ⟨w.heap.size + 1 + 1, 0, none⟩) HNE.out (.int .u64 (u : Int)))
         generalize r1.extract n r1.size = m at *
         have HMS := Lib.hid hms
         clear hnl2
         rcases Nat.eq_zero_or_pos m.size with hm0 | hm0
         ·have hem := isEmpty_true hm0
          have HR := Aside0.mk (show nums 3 [] r.data.toList = some ([u], m.data.toList) by rw [← HN.out]; exact nums_stop (m := 2) (by rw [HNU.out, ← HDD.out]) (.inl (by rw [goOn_begins, begins_nil hm0])))
          clear HP5 HP6
          refine Lib.hid ?_
          go_wp2_with fail
          go_meet
          case rel => exact ⟨m, [u], rfl, by simp, HMS.out, HR, HO6⟩
         ·have hem := isEmpty_false hm0
          have hbg := begins_at (c := 46) hm0
          by_cases hq : (m[0]).toNat = 46
          ·have qn : (((m[0]).toNat : Int) != 46) = false := by rw [bne_eq_false_iff_eq]; omega
           have HR := Aside0.mk (show nums 2 [u] (m.extract 1 m.size).data.toList = nums 3 [] r.data.toList by rw [← HN.out, drop_data]; exact (nums_on (acc := []) (m := 2) (by rw [HNU.out, ← HDD.out]) (by rw [goOn_begins, hbg, hq]; rfl) (by omega)).symm)
           clear HP5 hq hbg
           refine Lib.hid ?_
           go_wp2_with fail
           go_roundw
           case rel => exact ⟨_, [u], rfl, by simp, by simp, by simp, by simp only [ByteArray.size_extract]; omega, HR, HO6, HP6⟩
           case measure => simp [intOf]
          ·have qn : (((m[0]).toNat : Int) != 46) = true := by rw [bne_iff_ne]; omega
           have HR := Aside0.mk (show nums 3 [] r.data.toList = some ([u], m.data.toList) by rw [← HN.out]; exact nums_stop (m := 2) (by rw [HNU.out, ← HDD.out]) (.inl (by rw [goOn_begins, hbg]; exact beq_eq_false_iff_ne.2 hq)))
           clear HP5 HP6 hq hbg
           refine Lib.hid ?_
           go_wp2_with fail
           go_meet
           case rel => exact ⟨m, [u], rfl, by simp, HMS.out, HR, HO6⟩
        ·have HBAD := Lib.hid (readV_none (s := s) (by rw [← HRL.out, ← HN.out]; exact nums_none (m := 2) (HW.out hno)))
         clear hno HOR HU HW
         have r0 := blk_cell (HO5.out).res 0
         have t0 := blk_frozen (HO5.out).res 0
         have r1 := blk_cell (HO5.out).res 1
         have t1 := blk_frozen (HO5.out).res 1
         have r2 := blk_cell (HO5.out).res 2
         have t2 := blk_frozen (HO5.out).res 2
         have r3 := blk_cell (HO5.out).res 3
         have t3 := blk_frozen (HO5.out).res 3
         have r4 := blk_cell (HO5.out).res 4
         have t4 := blk_frozen (HO5.out).res 4
         have r5 := blk_cell (HO5.out).res 5
         have t5 := blk_frozen (HO5.out).res 5
         refine Lib.hid ?_
         go_wp2_with fail
         refine bodyPost_ret (v := .tuple #[.agg zSV, .int .i64 0, .iface 260 (.pointer (some ⟨w.heap.size + 1, 0, none⟩))]) (by simp [results, Tryz.results143, go_sem, *]) rfl (readEnd_bad HBAD.out ?_)
         exact ((((((HO5.out.bel).setCell (Nat.le_refl _) _).setCell (Nat.le_refl _) _).setCell (Nat.le_refl _) _).setCell (Nat.le_refl _) _).setCell (Nat.le_refl _) _).setCell (Nat.le_refl _) _
     ·-- number 1
      have hp := blk_cell HP.out 1
      go_upto_block 2 with fail
      go_cut [11] from 38 to 55 (fun v11 wx => v11 = .int .i64 ((digN r1.data.toList : Nat) : Int) ∧ Aside0 (Own w wx ([a].getD 0 0 : Nat) ([a].getD 1 0 : Nat) ([a].getD 2 0 : Nat) ⟨#[]⟩ ⟨#[]⟩ s) ∧ Aside0 (wx.heap[wc.heap.size]? = some (.cells #[.pointer (some ⟨w.heap.size + 1 + 1, 0, none⟩), .pointer (some ⟨w.heap.size + 1 + 1, 1, none⟩), .pointer (some ⟨w.heap.size + 1 + 1, 2, none⟩)] 255 (0, 0))))
      case first =>
       clear hp
       go_wp2_with fail
       go_loopw [11] (fun v11 wr2 => ∃ i : Nat, v11 = .int .i64 (i : Int) ∧ i ≤ r1.size ∧ Aside0 (digN r1.data.toList = i + digN (r1.data.toList.drop i)) ∧ Aside0 (Own w wr2 ([a].getD 0 0 : Nat) ([a].getD 1 0 : Nat) ([a].getD 2 0 : Nat) ⟨#[]⟩ ⟨#[]⟩ s) ∧ Aside0 (wr2.heap[wc.heap.size]? = some (.cells #[.pointer (some ⟨w.heap.size + 1 + 1, 0, none⟩), .pointer (some ⟨w.heap.size + 1 + 1, 1, none⟩), .pointer (some ⟨w.heap.size + 1 + 1, 2, none⟩)] 255 (0, 0)))) (fun v11 _ => r1.size - (intOf v11).toNat)
       case atStart => exact ⟨0, rfl, by omega, ⟨by simp⟩, HO, HP⟩
       case round =>
        obtain ⟨i, rfl, hi, HD, HO, HP⟩ := hrel
        by_cases hlt : i < r1.size
        ·have HS := Lib.hid (digN_step hlt)
         by_cases q1 : 48 ≤ (r1[i]).toNat
         ·by_cases q2 : (r1[i]).toNat ≤ 57
          ·have q3 : decide ((48 : Int) ≤ ((r1[i]).toNat : Int)) = true := decide_eq_true (by omega)
           have q4 : decide (((r1[i]).toNat : Int) ≤ 57) = true := decide_eq_true (by omega)
           have HD2 := Aside0.mk (show digN r1.data.toList = (i + 1) + digN (r1.data.toList.drop (i + 1)) by rw [HD.out, HS.out, if_pos ⟨q1, q2⟩]; omega)
           clear q1 q2
           go_wp2_with fail
           go_roundw
           case rel => exact ⟨i + 1, by simp, by omega, HD2, HO, HP⟩
           case measure => simp [intOf]; omega
          ·have q3 : decide ((48 : Int) ≤ ((r1[i]).toNat : Int)) = true := decide_eq_true (by omega)
           have q4 : decide (((r1[i]).toNat : Int) ≤ 57) = false := decide_eq_false (by omega)
           have HE := Aside0.mk (show digN r1.data.toList = i by rw [HD.out, HS.out, if_neg (fun h => q2 h.2)]; omega)
           clear q1 q2
           go_wp2_with fail
           go_meet
           case rel => exact ⟨by rw [HE.out], HO, HP⟩
         ·have q3 : decide ((48 : Int) ≤ ((r1[i]).toNat : Int)) = false := decide_eq_false (by omega)
          have HE := Aside0.mk (show digN r1.data.toList = i by rw [HD.out, HS.out, if_neg (fun h => q1 h.1)]; omega)
          clear q1
          go_wp2_with fail
          go_meet
          case rel => exact ⟨by rw [HE.out], HO, HP⟩
        ·have HE := Aside0.mk (show digN r1.data.toList = i by rw [HD.out, digN_end hlt]; omega)
         go_wp2_with fail
         go_meet
         case rel => exact ⟨by rw [HE.out], HO, HP⟩
      case rest =>
       clear hp HO HP
       obtain ⟨rfl, HO, HP⟩ := hcut
       have hnl := digN_le r1.data.toList
       have hnl2 : digN r1.data.toList ≤ r1.size := by
        have e : r1.data.toList.length = r1.size := Array.length_toList
        omega
       clear hnl
       by_cases hn0 : digN r1.data.toList = 0
       ·have HBAD := Lib.hid (readV_none (s := s) (by rw [← HRL.out, ← HN.out]; exact nums_none (m := 1) (numOf_zero hn0)))
        have q0 : (((digN r1.data.toList : Nat) : Int) == 0) = true := by rw [hn0]; rfl
        clear hn0
        generalize digN r1.data.toList = n at *
        have r0 := blk_cell (HO.out).res 0
        have t0 := blk_frozen (HO.out).res 0
        have r1 := blk_cell (HO.out).res 1
        have t1 := blk_frozen (HO.out).res 1
        have r2 := blk_cell (HO.out).res 2
        have t2 := blk_frozen (HO.out).res 2
        have r3 := blk_cell (HO.out).res 3
        have t3 := blk_frozen (HO.out).res 3
        have r4 := blk_cell (HO.out).res 4
        have t4 := blk_frozen (HO.out).res 4
        have r5 := blk_cell (HO.out).res 5
        have t5 := blk_frozen (HO.out).res 5
        go_wp2_with fail
        refine bodyPost_ret (v := .tuple #[.agg zSV, .int .i64 0, .iface 260 (.pointer (some ⟨w.heap.size + 1, 0, none⟩))]) (by simp [results, Tryz.results143, go_sem, *]) rfl (readEnd_bad HBAD.out ?_)
        exact ((((((HO.out.bel).setCell (Nat.le_refl _) _).setCell (Nat.le_refl _) _).setCell (Nat.le_refl _) _).setCell (Nat.le_refl _) _).setCell (Nat.le_refl _) _).setCell (Nat.le_refl _) _
       ·have q0 : (((digN r1.data.toList : Nat) : Int) == 0) = false := by rw [beq_eq_false_iff_ne]; omega
        have HU := Lib.hid (fun (u : Nat) (h : Lib.parseUintB 64 (r1.extract 0 (digN r1.data.toList)).data.toList = .ok u) => numOf_ok (l := r1.data.toList) hn0 (by rw [take_data] at h; exact h))
        have HW := Lib.hid (fun (h : ∀ u : Nat, Lib.parseUintB 64 (r1.extract 0 (digN r1.data.toList)).data.toList ≠ .ok u) => numOf_bad (l := r1.data.toList) (by rw [take_data] at h; exact h))
        have HDD := Lib.hid (drop_data r1 (digN r1.data.toList))
        have hcut := cut_from r1 (digN r1.data.toList) hnl2
        have CU := Lib.hid (uint_any (r1.extract 0 (digN r1.data.toList)) (by simp only [ByteArray.size_extract]; omega) wc (HV.out.below HO.out.bel))
        clear hn0
        have hms : (r1.extract (digN r1.data.toList) r1.size).size ≤ 2147483647 := by simp only [ByteArray.size_extract]; omega
        generalize digN r1.data.toList = n at *
        go_wp2_with (first | (go_at_call 152; ((with_reducible refine CU.out.mono ?_); rintro e w5 ⟨nn, err, rfl, hb, hor⟩; refine Hid.out ?_)))
        have HO5 := Aside0.mk (HO.out.below hb)
        have HP5 := Aside0.mk (blk_below HP.out hb)
        have HOR := Lib.hid hor
        clear hb hor CU
        rcases HOR.out with ⟨u, rfl, hu, rfl⟩ | ⟨hno, tt, ad, rfl⟩
        ·have HNU := Lib.hid (HU.out u hu)
         clear hu HOR HU HW
         have x0 := blk_cell HO5.out.ver 1
         have y0 := blk_frozen HO5.out.ver 1
         have HO6 := Aside0.mk (HO5.out.put1 (u : Int))
         have HP6 := Aside0.mk (blk_far HP5.out (p := ⟨w.heap.size + 1 + 1, 1, none⟩) HNE.out (.int .u64 (u : Int)))
         generalize r1.extract n r1.size = m at *
         have HMS := Lib.hid hms
         clear hnl2
         rcases Nat.eq_zero_or_pos m.size with hm0 | hm0
         ·have hem := isEmpty_true hm0
          have HR := Aside0.mk (show nums 3 [] r.data.toList = some ([a, u], m.data.toList) by rw [← HN.out]; exact nums_stop (m := 1) (by rw [HNU.out, ← HDD.out]) (.inl (by rw [goOn_begins, begins_nil hm0])))
          clear HP5 HP6
          refine Lib.hid ?_
          go_wp2_with fail
          go_meet
          case rel => exact ⟨m, [a, u], rfl, by simp, HMS.out, HR, HO6⟩
         ·have hem := isEmpty_false hm0
          have hbg := begins_at (c := 46) hm0
          by_cases hq : (m[0]).toNat = 46
          ·have qn : (((m[0]).toNat : Int) != 46) = false := by rw [bne_eq_false_iff_eq]; omega
           have HR := Aside0.mk (show nums 1 [a, u] (m.extract 1 m.size).data.toList = nums 3 [] r.data.toList by rw [← HN.out, drop_data]; exact (nums_on (acc := [a]) (m := 1) (by rw [HNU.out, ← HDD.out]) (by rw [goOn_begins, hbg, hq]; rfl) (by omega)).symm)
           clear HP5 hq hbg
           refine Lib.hid ?_
           go_wp2_with fail
           go_roundw
           case rel => exact ⟨_, [a, u], rfl, by simp, by simp, by simp, by simp only [ByteArray.size_extract]; omega, HR, HO6, HP6⟩
           case measure => simp [intOf]
          ·have qn : (((m[0]).toNat : Int) != 46) = true := by rw [bne_iff_ne]; omega
           have HR := Aside0.mk (show nums 3 [] r.data.toList = some ([a, u], m.data.toList) by rw [← HN.out]; exact nums_stop (m := 1) (by rw [HNU.out, ← HDD.out]) (.inl (by rw [goOn_begins, hbg]; exact beq_eq_false_iff_ne.2 hq)))
           clear HP5 HP6 hq hbg
           refine Lib.hid ?_
           go_wp2_with fail
           go_meet
           case rel => exact ⟨m, [a, u], rfl, by simp, HMS.out, HR, HO6⟩
        ·have HBAD := Lib.hid (readV_none (s := s) (by rw [← HRL.out, ← HN.out]; exact nums_none (m := 1) (HW.out hno)))
         clear hno HOR HU HW
         have r0 := blk_cell (HO5.out).res 0
         have t0 := blk_frozen (HO5.out).res 0
         have r1 := blk_cell (HO5.out).res 1
         have t1 := blk_frozen (HO5.out).res 1
         have r2 := blk_cell (HO5.out).res 2
         have t2 := blk_frozen (HO5.out).res 2
         have r3 := blk_cell (HO5.out).res 3
         have t3 := blk_frozen (HO5.out).res 3
         have r4 := blk_cell (HO5.out).res 4
         have t4 := blk_frozen (HO5.out).res 4
         have r5 := blk_cell (HO5.out).res 5
         have t5 := blk_frozen (HO5.out).res 5
         refine Lib.hid ?_
         go_wp2_with fail
         refine bodyPost_ret (v := .tuple #[.agg zSV, .int .i64 0, .iface 260 (.pointer (some ⟨w.heap.size + 1, 0, none⟩))]) (by simp [results, Tryz.results143, go_sem, *]) rfl (readEnd_bad HBAD.out ?_)
         exact ((((((HO5.out.bel).setCell (Nat.le_refl _) _).setCell (Nat.le_refl _) _).setCell (Nat.le_refl _) _).setCell (Nat.le_refl _) _).setCell (Nat.le_refl _) _).setCell (Nat.le_refl _) _
     ·-- number 2
      have hp := blk_cell HP.out 2
      go_upto_block 2 with fail
      go_cut [11] from 38 to 55 (fun v11 wx => v11 = .int .i64 ((digN r1.data.toList : Nat) : Int) ∧ Aside0 (Own w wx ([a, b].getD 0 0 : Nat) ([a, b].getD 1 0 : Nat) ([a, b].getD 2 0 : Nat) ⟨#[]⟩ ⟨#[]⟩ s) ∧ Aside0 (wx.heap[wc.heap.size]? = some (.cells #[.pointer (some ⟨w.heap.size + 1 + 1, 0, none⟩), .pointer (some ⟨w.heap.size + 1 + 1, 1, none⟩), .pointer (some ⟨w.heap.size + 1 + 1, 2, none⟩)] 255 (0, 0))))
      case first =>
       clear hp
       go_wp2_with fail
       go_loopw [11] (fun v11 wr2 => ∃ i : Nat, v11 = .int .i64 (i : Int) ∧ i ≤ r1.size ∧ Aside0 (digN r1.data.toList = i + digN (r1.data.toList.drop i)) ∧ Aside0 (Own w wr2 ([a, b].getD 0 0 : Nat) ([a, b].getD 1 0 : Nat) ([a, b].getD 2 0 : Nat) ⟨#[]⟩ ⟨#[]⟩ s) ∧ Aside0 (wr2.heap[wc.heap.size]? = some (.cells #[.pointer (some ⟨w.heap.size + 1 + 1, 0, none⟩), .pointer (some ⟨w.heap.size + 1 + 1, 1, none⟩), .pointer (some ⟨w.heap.size + 1 + 1, 2, none⟩)] 255 (0, 0)))) (fun v11 _ => r1.size - (intOf v11).toNat)
       case atStart => exact ⟨0, rfl, by omega, ⟨by simp⟩, HO, HP⟩
       case round =>
        obtain ⟨i, rfl, hi, HD, HO, HP⟩ := hrel
        by_cases hlt : i < r1.size
        ·have HS := Lib.hid (digN_step hlt)
         by_cases q1 : 48 ≤ (r1[i]).toNat
         ·by_cases q2 : (r1[i]).toNat ≤ 57
          ·have q3 : decide ((48 : Int) ≤ ((r1[i]).toNat : Int)) = true := decide_eq_true (by omega)
           have q4 : decide (((r1[i]).toNat : Int) ≤ 57) = true := decide_eq_true (by omega)
           have HD2 := Aside0.mk (show digN r1.data.toList = (i + 1) + digN (r1.data.toList.drop (i + 1)) by rw [HD.out, HS.out, if_pos ⟨q1, q2⟩]; omega)
           clear q1 q2
           go_wp2_with fail
           go_roundw
           case rel => exact ⟨i + 1, by simp, by omega, HD2, HO, HP⟩
           case measure => simp [intOf]; omega
          ·have q3 : decide ((48 : Int) ≤ ((r1[i]).toNat : Int)) = true := decide_eq_true (by omega)
           have q4 : decide (((r1[i]).toNat : Int) ≤ 57) = false := decide_eq_false (by omega)
           have HE := Aside0.mk (show digN r1.data.toList = i by rw [HD.out, HS.out, if_neg (fun h => q2 h.2)]; omega)
           clear q1 q2
           go_wp2_with fail
           go_meet
           case rel => exact ⟨by rw [HE.out], HO, HP⟩
         ·have q3 : decide ((48 : Int) ≤ ((r1[i]).toNat : Int)) = false := decide_eq_false (by omega)
          have HE := Aside0.mk (show digN r1.data.toList = i by rw [HD.out, HS.out, if_neg (fun h => q1 h.1)]; omega)
          clear q1
          go_wp2_with fail
          go_meet
          case rel => exact ⟨by rw [HE.out], HO, HP⟩
        ·have HE := Aside0.mk (show digN r1.data.toList = i by rw [HD.out, digN_end hlt]; omega)
         go_wp2_with fail
         go_meet
         case rel => exact ⟨by rw [HE.out], HO, HP⟩
      case rest =>
       clear hp HO HP
       obtain ⟨rfl, HO, HP⟩ := hcut
       have hnl := digN_le r1.data.toList
       have hnl2 : digN r1.data.toList ≤ r1.size := by
        have e : r1.data.toList.length = r1.size := Array.length_toList
        omega
       clear hnl
       by_cases hn0 : digN r1.data.toList = 0
       ·have HBAD := Lib.hid (readV_none (s := s) (by rw [← HRL.out, ← HN.out]; exact nums_none (m := 0) (numOf_zero hn0)))
        have q0 : (((digN r1.data.toList : Nat) : Int) == 0) = true := by rw [hn0]; rfl
        clear hn0
        generalize digN r1.data.toList = n at *
        have r0 := blk_cell (HO.out).res 0
        have t0 := blk_frozen (HO.out).res 0
        have r1 := blk_cell (HO.out).res 1
        have t1 := blk_frozen (HO.out).res 1
        have r2 := blk_cell (HO.out).res 2
        have t2 := blk_frozen (HO.out).res 2
        have r3 := blk_cell (HO.out).res 3
        have t3 := blk_frozen (HO.out).res 3
        have r4 := blk_cell (HO.out).res 4
        have t4 := blk_frozen (HO.out).res 4
        have r5 := blk_cell (HO.out).res 5
        have t5 := blk_frozen (HO.out).res 5
        go_wp2_with fail
        refine bodyPost_ret (v := .tuple #[.agg zSV, .int .i64 0, .iface 260 (.pointer (some ⟨w.heap.size + 1, 0, none⟩))]) (by simp [results, Tryz.results143, go_sem, *]) rfl (readEnd_bad HBAD.out ?_)
        exact ((((((HO.out.bel).setCell (Nat.le_refl _) _).setCell (Nat.le_refl _) _).setCell (Nat.le_refl _) _).setCell (Nat.le_refl _) _).setCell (Nat.le_refl _) _).setCell (Nat.le_refl _) _
       ·have q0 : (((digN r1.data.toList : Nat) : Int) == 0) = false := by rw [beq_eq_false_iff_ne]; omega
        have HU := Lib.hid (fun (u : Nat) (h : Lib.parseUintB 64 (r1.extract 0 (digN r1.data.toList)).data.toList = .ok u) => numOf_ok (l := r1.data.toList) hn0 (by rw [take_data] at h; exact h))
        have HW := Lib.hid (fun (h : ∀ u : Nat, Lib.parseUintB 64 (r1.extract 0 (digN r1.data.toList)).data.toList ≠ .ok u) => numOf_bad (l := r1.data.toList) (by rw [take_data] at h; exact h))
        have HDD := Lib.hid (drop_data r1 (digN r1.data.toList))
        have hcut := cut_from r1 (digN r1.data.toList) hnl2
        have CU := Lib.hid (uint_any (r1.extract 0 (digN r1.data.toList)) (by simp only [ByteArray.size_extract]; omega) wc (HV.out.below HO.out.bel))
        clear hn0
        have hms : (r1.extract (digN r1.data.toList) r1.size).size ≤ 2147483647 := by simp only [ByteArray.size_extract]; omega
        generalize digN r1.data.toList = n at *
        go_wp2_with (first | (go_at_call 152; ((with_reducible refine CU.out.mono ?_); rintro e w5 ⟨nn, err, rfl, hb, hor⟩; refine Hid.out ?_)))
        have HO5 := Aside0.mk (HO.out.below hb)
        have HP5 := Aside0.mk (blk_below HP.out hb)
        have HOR := Lib.hid hor
        clear hb hor CU
        rcases HOR.out with ⟨u, rfl, hu, rfl⟩ | ⟨hno, tt, ad, rfl⟩
        ·have HNU := Lib.hid (HU.out u hu)
         clear hu HOR HU HW
         have x0 := blk_cell HO5.out.ver 2
         have y0 := blk_frozen HO5.out.ver 2
         have HO6 := Aside0.mk (HO5.out.put2 (u : Int))
         have HP6 := Aside0.mk (blk_far HP5.out (p := ⟨w.heap.size + 1 + 1, 2, none⟩) HNE.out (.int .u64 (u : Int)))
         generalize r1.extract n r1.size = m at *
         have HMS := Lib.hid hms
         clear hnl2
         rcases Nat.eq_zero_or_pos m.size with hm0 | hm0
         ·have hem := isEmpty_true hm0
          have HR := Aside0.mk (show nums 3 [] r.data.toList = some ([a, b, u], m.data.toList) by rw [← HN.out]; exact nums_stop (m := 0) (by rw [HNU.out, ← HDD.out]) (.inl (by rw [goOn_begins, begins_nil hm0])))
          clear HP5 HP6
          refine Lib.hid ?_
          go_wp2_with fail
          go_meet
          case rel => exact ⟨m, [a, b, u], rfl, by simp, HMS.out, HR, HO6⟩
         ·have hem := isEmpty_false hm0
          have hbg := begins_at (c := 46) hm0
          by_cases hq : (m[0]).toNat = 46
          ·have qn : (((m[0]).toNat : Int) != 46) = false := by rw [bne_eq_false_iff_eq]; omega
           have HR := Aside0.mk (show nums 3 [] r.data.toList = some ([a, b, u], m.data.toList) by rw [← HN.out]; exact nums_stop (m := 0) (by rw [HNU.out, ← HDD.out]) (.inr rfl))
           clear HP5 HP6 hq hbg
           refine Lib.hid ?_
           go_wp2_with fail
           go_meet
           case rel => exact ⟨m, [a, b, u], rfl, by simp, HMS.out, HR, HO6⟩
          ·have qn : (((m[0]).toNat : Int) != 46) = true := by rw [bne_iff_ne]; omega
           have HR := Aside0.mk (show nums 3 [] r.data.toList = some ([a, b, u], m.data.toList) by rw [← HN.out]; exact nums_stop (m := 0) (by rw [HNU.out, ← HDD.out]) (.inl (by rw [goOn_begins, hbg]; exact beq_eq_false_iff_ne.2 hq)))
           clear HP5 HP6 hq hbg
           refine Lib.hid ?_
           go_wp2_with fail
           go_meet
           case rel => exact ⟨m, [a, b, u], rfl, by simp, HMS.out, HR, HO6⟩
        ·have HBAD := Lib.hid (readV_none (s := s) (by rw [← HRL.out, ← HN.out]; exact nums_none (m := 0) (HW.out hno)))
         clear hno HOR HU HW
         have r0 := blk_cell (HO5.out).res 0
         have t0 := blk_frozen (HO5.out).res 0
         have r1 := blk_cell (HO5.out).res 1
         have t1 := blk_frozen (HO5.out).res 1
         have r2 := blk_cell (HO5.out).res 2
         have t2 := blk_frozen (HO5.out).res 2
         have r3 := blk_cell (HO5.out).res 3
         have t3 := blk_frozen (HO5.out).res 3
         have r4 := blk_cell (HO5.out).res 4
         have t4 := blk_frozen (HO5.out).res 4
         have r5 := blk_cell (HO5.out).res 5
         have t5 := blk_frozen (HO5.out).res 5
         refine Lib.hid ?_
         go_wp2_with fail
         refine bodyPost_ret (v := .tuple #[.agg zSV, .int .i64 0, .iface 260 (.pointer (some ⟨w.heap.size + 1, 0, none⟩))]) (by simp [results, Tryz.results143, go_sem, *]) rfl (readEnd_bad HBAD.out ?_)
         exact ((((((HO5.out.bel).setCell (Nat.le_refl _) _).setCell (Nat.le_refl _) _).setCell (Nat.le_refl _) _).setCell (Nat.le_refl _) _).setCell (Nat.le_refl _) _).setCell (Nat.le_refl _) _
   case rest =>
    clear HO
    obtain ⟨r1, ns, rfl, rfl, hr1, HR, HO⟩ := hcut
    go_upto_region 23 with fail
    go_cut [99] from 93 to 99 (fun v wx => v = .bool (begins r1.data.toList 45) ∧ Aside0 (Own w wx (ns.getD 0 0 : Nat) (ns.getD 1 0 : Nat) (ns.getD 2 0 : Nat) ⟨#[]⟩ ⟨#[]⟩ s))
    case first =>
     rcases Nat.eq_zero_or_pos r1.size with h0 | h0
     ·have hem := isEmpty_true h0
      have hbg := begins_nil (c := 45) h0
      go_wp2_with fail
      go_meet
      case rel => exact ⟨by rw [hbg], HO⟩
     ·have hem := isEmpty_false h0
      have hbg := begins_at (c := 45) h0
      rw [← cast_beq] at hbg
      have HBG := Lib.hid hbg
      clear hbg
      go_wp2_with fail
      go_meet
      case rel => exact ⟨by rw [HBG.out]; rfl, HO⟩
    case rest =>
     clear HO
     obtain ⟨rfl, HO⟩ := hcut
     go_upto_if 99 with fail
     go_cut [7, 14] from 99 to 114 (fun v7 _ wx => ∃ (r2 : ByteArray) (pre : List UInt8), v7 = .string r2 ∧ r2.size ≤ 2147483647 ∧ Aside0 (part 45 r1.data.toList = some (pre, r2.data.toList)) ∧ Aside0 (Own w wx (ns.getD 0 0 : Nat) (ns.getD 1 0 : Nat) (ns.getD 2 0 : Nat) ⟨pre.toArray⟩ ⟨#[]⟩ s))
     case first =>
      cases hq : begins r1.data.toList 45 with
      | false =>
       have HPN := Aside0.mk (part_not (c := 45) hq)
       go_wp2_with fail
       go_meet
       case rel => exact ⟨r1, [], rfl, hr1, HPN, HO⟩
      | true =>
       have h0 := begins_pos hq
       have hc0 := cut_from r1 1 (by omega)
       have hxs : (r1.extract 1 r1.size).size = r1.size - 1 := by simp only [ByteArray.size_extract]; omega
       have HI := Lib.hid (ident_any (r1.extract 1 r1.size) (by omega))
       have hnl := ident_size (r1.extract 1 r1.size)
       have HPP := Lib.hid (part_is (s := r1) (c := 45) hq)
       have HP0 := Lib.hid (part_bad (s := r1) (c := 45) hq)
       generalize identN (r1.extract 1 r1.size).data.toList = n at *
       by_cases hn0 : n = 0
       ·have HNN := Lib.hid (HP0.out hn0)
        have HBAD := Lib.hid (show readV s = none from readV_pre (by rw [← HRL.out]; exact HR.out) HNN.out)
        have q0 : ((n : Int) == 0) = true := by rw [hn0]; rfl
        clear hn0 hq
        have r0 := blk_cell (HO.out).res 0
        have t0 := blk_frozen (HO.out).res 0
        have r1 := blk_cell (HO.out).res 1
        have t1 := blk_frozen (HO.out).res 1
        have r2 := blk_cell (HO.out).res 2
        have t2 := blk_frozen (HO.out).res 2
        have r3 := blk_cell (HO.out).res 3
        have t3 := blk_frozen (HO.out).res 3
        have r4 := blk_cell (HO.out).res 4
        have t4 := blk_frozen (HO.out).res 4
        have r5 := blk_cell (HO.out).res 5
        have t5 := blk_frozen (HO.out).res 5
        go_wp2_with (first | (go_at_call 153; ((with_reducible refine (HI.out _).mono ?_); rintro e w5 ⟨rfl, nd, rfl⟩)))
        refine bodyPost_ret (v := .tuple #[.agg zSV, .int .i64 0, .iface 260 (.pointer (some ⟨w.heap.size + 1, 0, none⟩))]) (by simp [results, Tryz.results143, go_sem, *]) rfl (readEnd_bad HBAD.out ?_)
        exact ((((((pw_below_drewN HO.out.bel nd).setCell (Nat.le_refl _) _).setCell (Nat.le_refl _) _).setCell (Nat.le_refl _) _).setCell (Nat.le_refl _) _).setCell (Nat.le_refl _) _).setCell (Nat.le_refl _) _
       ·have HPN := Aside0.mk (HPP.out hn0)
        have q0 : ((n : Int) == 0) = false := by rw [beq_eq_false_iff_ne]; omega
        have hs1 := cut_mid r1 1 (1 + n) (by omega) (by omega)
        have hs2 := cut_from r1 (1 + n) (by omega)
        rw [show ((1 + n : Nat) : Int) = 1 + (n : Int) by omega] at hs1 hs2
        rw [show ((1 : Nat) : Int) = 1 from rfl] at hs1 hc0
        have hp2 : (r1.extract (1 + n) r1.size).size ≤ 2147483647 := by simp only [ByteArray.size_extract]; omega
        have x0 := blk_cell HO.out.ver 3
        have y0 := blk_frozen HO.out.ver 3
        clear hn0 hq HPP HP0
        generalize r1.extract 1 (1 + n) = p1 at *
        generalize r1.extract (1 + n) r1.size = p2 at *
        have HO2 := Aside0.mk (HO.out.put3 p1)
        have HSZ := Lib.hid hp2
        clear hp2
        go_wp2_with (first | (go_at_call 153; ((with_reducible refine (HI.out _).mono ?_); rintro e w5 ⟨rfl, nd, rfl⟩)))
        go_region
        all_goals
         go_wp2_with fail
         go_meet
         case rel => exact ⟨p2, p1.data.toList, rfl, HSZ.out, HPN, ⟨by rw [back_bytes]; exact (HO.out.drewN (nd + 1)).put3 p1⟩⟩
     case rest =>
      clear HO
      obtain ⟨r2, pre, rfl, hr2, HP1, HO⟩ := hcut
      go_upto_region 28 with fail
      go_cut [122] from 116 to 122 (fun v wx => v = .bool (begins r2.data.toList 43) ∧ Aside0 (Own w wx (ns.getD 0 0 : Nat) (ns.getD 1 0 : Nat) (ns.getD 2 0 : Nat) ⟨pre.toArray⟩ ⟨#[]⟩ s))
      case first =>
       rcases Nat.eq_zero_or_pos r2.size with h0 | h0
       ·have hem := isEmpty_true h0
        have hbg := begins_nil (c := 43) h0
        go_wp2_with fail
        go_meet
        case rel => exact ⟨by rw [hbg], HO⟩
       ·have hem := isEmpty_false h0
        have hbg := begins_at (c := 43) h0
        rw [← cast_beq] at hbg
        have HBG := Lib.hid hbg
        clear hbg
        go_wp2_with fail
        go_meet
        case rel => exact ⟨by rw [HBG.out]; rfl, HO⟩
      case rest =>
       clear HO
       obtain ⟨rfl, HO⟩ := hcut
       go_upto_if 122 with fail
       go_cut [7, 15] from 122 to 137 (fun v7 _ wx => ∃ (r3 : ByteArray) (mt : List UInt8), v7 = .string r3 ∧ r3.size ≤ 2147483647 ∧ Aside0 (part 43 r2.data.toList = some (mt, r3.data.toList)) ∧ Aside0 (Own w wx (ns.getD 0 0 : Nat) (ns.getD 1 0 : Nat) (ns.getD 2 0 : Nat) ⟨pre.toArray⟩ ⟨mt.toArray⟩ s))
       case first =>
        cases hq : begins r2.data.toList 43 with
        | false =>
         have HPN := Aside0.mk (part_not (c := 43) hq)
         go_wp2_with fail
         go_meet
         case rel => exact ⟨r2, [], rfl, hr2, HPN, HO⟩
        | true =>
         have h0 := begins_pos hq
         have hc0 := cut_from r2 1 (by omega)
         have hxs : (r2.extract 1 r2.size).size = r2.size - 1 := by simp only [ByteArray.size_extract]; omega
         have HI := Lib.hid (ident_any (r2.extract 1 r2.size) (by omega))
         have hnl := ident_size (r2.extract 1 r2.size)
         have HPP := Lib.hid (part_is (s := r2) (c := 43) hq)
         have HP0 := Lib.hid (part_bad (s := r2) (c := 43) hq)
         generalize identN (r2.extract 1 r2.size).data.toList = n at *
         by_cases hn0 : n = 0
         ·have HNN := Lib.hid (HP0.out hn0)
          have HBAD := Lib.hid (show readV s = none from readV_mt (by rw [← HRL.out]; exact HR.out) HP1.out HNN.out)
          have q0 : ((n : Int) == 0) = true := by rw [hn0]; rfl
          clear hn0 hq
          have r0 := blk_cell (HO.out).res 0
          have t0 := blk_frozen (HO.out).res 0
          have r1 := blk_cell (HO.out).res 1
          have t1 := blk_frozen (HO.out).res 1
          have r2 := blk_cell (HO.out).res 2
          have t2 := blk_frozen (HO.out).res 2
          have r3 := blk_cell (HO.out).res 3
          have t3 := blk_frozen (HO.out).res 3
          have r4 := blk_cell (HO.out).res 4
          have t4 := blk_frozen (HO.out).res 4
          have r5 := blk_cell (HO.out).res 5
          have t5 := blk_frozen (HO.out).res 5
          go_wp2_with (first | (go_at_call 153; ((with_reducible refine (HI.out _).mono ?_); rintro e w5 ⟨rfl, nd, rfl⟩)))
          refine bodyPost_ret (v := .tuple #[.agg zSV, .int .i64 0, .iface 260 (.pointer (some ⟨w.heap.size + 1, 0, none⟩))]) (by simp [results, Tryz.results143, go_sem, *]) rfl (readEnd_bad HBAD.out ?_)
          exact ((((((pw_below_drewN HO.out.bel nd).setCell (Nat.le_refl _) _).setCell (Nat.le_refl _) _).setCell (Nat.le_refl _) _).setCell (Nat.le_refl _) _).setCell (Nat.le_refl _) _).setCell (Nat.le_refl _) _
         ·have HPN := Aside0.mk (HPP.out hn0)
          have q0 : ((n : Int) == 0) = false := by rw [beq_eq_false_iff_ne]; omega
          have hs1 := cut_mid r2 1 (1 + n) (by omega) (by omega)
          have hs2 := cut_from r2 (1 + n) (by omega)
          rw [show ((1 + n : Nat) : Int) = 1 + (n : Int) by omega] at hs1 hs2
          rw [show ((1 : Nat) : Int) = 1 from rfl] at hs1 hc0
          have hp2 : (r2.extract (1 + n) r2.size).size ≤ 2147483647 := by simp only [ByteArray.size_extract]; omega
          have x0 := blk_cell HO.out.ver 4
          have y0 := blk_frozen HO.out.ver 4
          clear hn0 hq HPP HP0
          generalize r2.extract 1 (1 + n) = p1 at *
          generalize r2.extract (1 + n) r2.size = p2 at *
          have HO2 := Aside0.mk (HO.out.put4 p1)
          have HSZ := Lib.hid hp2
          clear hp2
          go_wp2_with (first | (go_at_call 153; ((with_reducible refine (HI.out _).mono ?_); rintro e w5 ⟨rfl, nd, rfl⟩)))
          go_region
          all_goals
           go_wp2_with fail
           go_meet
           case rel => exact ⟨p2, p1.data.toList, rfl, HSZ.out, HPN, ⟨by rw [back_bytes]; exact (HO.out.drewN (nd + 1)).put4 p1⟩⟩
       case rest =>
        clear HO
        obtain ⟨r3, mt, rfl, hr3, HP2, HO⟩ := hcut
        rcases Nat.eq_zero_or_pos r3.size with h0 | h0
        ·have hem := isEmpty_true h0
         have HG := Lib.hid (readV_ok (s := s) (by rw [← HRL.out]; exact HR.out) HP1.out HP2.out (list_nil h0))
         have r0 := blk_cell (HO.out).res 0
         have t0 := blk_frozen (HO.out).res 0
         have r1 := blk_cell (HO.out).res 1
         have t1 := blk_frozen (HO.out).res 1
         have r2 := blk_cell (HO.out).res 2
         have t2 := blk_frozen (HO.out).res 2
         have r3 := blk_cell (HO.out).res 3
         have t3 := blk_frozen (HO.out).res 3
         have r4 := blk_cell (HO.out).res 4
         have t4 := blk_frozen (HO.out).res 4
         have r5 := blk_cell (HO.out).res 5
         have t5 := blk_frozen (HO.out).res 5
         have z0 := blk_cell HO.out.ver 0
         have z1 := blk_cell HO.out.ver 1
         have z2 := blk_cell HO.out.ver 2
         have z3 := blk_cell HO.out.ver 3
         have z4 := blk_cell HO.out.ver 4
         have z5 := blk_cell HO.out.ver 5
         clear h0
         generalize ns.getD 0 0 = n0 at *
         generalize ns.getD 1 0 = n1 at *
         generalize ns.getD 2 0 = n2 at *
         generalize (⟨pre.toArray⟩ : ByteArray) = pp at *
         generalize (⟨mt.toArray⟩ : ByteArray) = mm at *
         go_wp2_with fail
         refine bodyPost_ret (v := .tuple #[.agg #[.int .u64 (n0 : Int), .int .u64 (n1 : Int), .int .u64 (n2 : Int), .string pp, .string mm, .string s], .int .i64 (ns.length : Int), .nilIface]) (by simp [results, Tryz.results143, go_sem, *]) rfl (readEnd_good HG.out ?_)
         exact ((((((HO.out.bel).setCell (Nat.le_refl _) _).setCell (Nat.le_refl _) _).setCell (Nat.le_refl _) _).setCell (Nat.le_refl _) _).setCell (Nat.le_refl _) _).setCell (Nat.le_refl _) _
        ·have hem := isEmpty_false h0
         have HBAD := Lib.hid (readV_rest (s := s) (by rw [← HRL.out]; exact HR.out) HP1.out HP2.out (list_some h0))
         have r0 := blk_cell (HO.out).res 0
         have t0 := blk_frozen (HO.out).res 0
         have r1 := blk_cell (HO.out).res 1
         have t1 := blk_frozen (HO.out).res 1
         have r2 := blk_cell (HO.out).res 2
         have t2 := blk_frozen (HO.out).res 2
         have r3 := blk_cell (HO.out).res 3
         have t3 := blk_frozen (HO.out).res 3
         have r4 := blk_cell (HO.out).res 4
         have t4 := blk_frozen (HO.out).res 4
         have r5 := blk_cell (HO.out).res 5
         have t5 := blk_frozen (HO.out).res 5
         clear h0
         go_wp2_with fail
         refine bodyPost_ret (v := .tuple #[.agg zSV, .int .i64 0, .iface 260 (.pointer (some ⟨w.heap.size + 1, 0, none⟩))]) (by simp [results, Tryz.results143, go_sem, *]) rfl (readEnd_bad HBAD.out ?_)
         exact ((((((HO.out.bel).setCell (Nat.le_refl _) _).setCell (Nat.le_refl _) _).setCell (Nat.le_refl _) _).setCell (Nat.le_refl _) _).setCell (Nat.le_refl _) _).setCell (Nat.le_refl _) _
end Go.Proofs.YtgoeiflddikihaaGreatDoor.Ver
end
section
namespace Go.Proofs.YtgoeiflddikihaaGreatDoor.Ver
open Go.RowKit Go.Proofs.YtgoeiflddikihaaGreatDoor.Dig Go.Proofs.YtgoeiflddikihaaGreatDoorW.PrintWords
def qSplitOn (c : UInt8) : List UInt8 → List (List UInt8)
 | [] => [[]]
 | x :: r => if x = c then [] :: qSplitOn c r else match qSplitOn c r with
  | h :: t => (x :: h) :: t
  | [] => [[x]]
def qCutAt (c : UInt8) : List UInt8 → List UInt8 × Option (List UInt8)
 | [] => ([], none)
 | x :: r => if x = c then ([], some r) else ((x :: (qCutAt c r).1), (qCutAt c r).2)
def qIdentsB (l : List UInt8) : Bool := (qSplitOn 46 l).all fun x => !x.isEmpty && x.all isId
def qNumB (l : List UInt8) : Option Nat := match Lib.parseUintB 64 l with
 | .ok u => some u
 | _ => none
def qNumsB : List (List UInt8) → Option (List Nat)
 | [] => some []
 | x :: r => match qNumB x, qNumsB r with
  | some a, some b => some (a :: b)
  | _, _ => none
def qOptB : Option (List UInt8) → Option (List UInt8)
 | none => some []
 | some p => if qIdentsB p then some p else none
def qSemB0 (l : List UInt8) : Option (List Nat × List UInt8 × List UInt8) :=
 let a := qCutAt 43 (bare0 l)
 match qOptB a.2 with
 | none => none
 | some mt =>
  let b := qCutAt 45 a.1
  match qOptB b.2 with
  | none => none
  | some pre =>
   let ps := qSplitOn 46 b.1
   if 3 < ps.length then none else match qNumsB ps with
    | none => none
    | some ns => some (ns, pre, mt)
theorem qSplitOn_ne (c : UInt8) : ∀ l, qSplitOn c l ≠ []
 | [] => by simp [qSplitOn]
 | x :: r => by
  unfold qSplitOn
  split
  ·simp
  ·split <;> simp
theorem qSplitOn_cons {c x : UInt8} {r : List UInt8} (h : x ≠ c) : ∃ p q, qSplitOn c r = p :: q ∧ qSplitOn c (x :: r) = (x :: p) :: q := by
 cases e : qSplitOn c r with
 | nil => exact absurd e (qSplitOn_ne c r)
 | cons p q => exact ⟨p, q, rfl, by rw [qSplitOn, if_neg h, e]⟩
def qIdAll : List UInt8 → Bool → Bool
 | [], p => p
 | c :: r, p => if isId c then qIdAll r true else if c = 46 ∧ p then qIdAll r false else false
theorem qDot_not_id : isId 46 = false := by decide
theorem qIdAll_split : ∀ (l : List UInt8) (p : Bool), qIdAll l p = (match qSplitOn 46 l with
  | h :: t => (p || !h.isEmpty) && h.all isId && t.all (fun x => !x.isEmpty && x.all isId)
  | [] => false)
 | [], p => by simp [qIdAll, qSplitOn]
 | c :: r, p => by
  by_cases hc : c = 46
  ·subst hc
   rw [qIdAll, qDot_not_id, qSplitOn, if_pos rfl]
   have ih := qIdAll_split r false
   cases p with
   | false => simp
   | true =>
    simp only [and_self, if_true]
    rw [ih]
    cases e : qSplitOn 46 r with
    | nil => exact absurd e (qSplitOn_ne _ _)
    | cons h t => simp [Bool.and_assoc]
  ·obtain ⟨h, t, e1, e2⟩ := qSplitOn_cons (r := r) hc
   rw [qIdAll, e2]
   have ih := qIdAll_split r true
   rw [e1] at ih
   by_cases hi : isId c = true
   ·rw [if_pos hi, ih]; simp [hi]
   ·rw [if_neg hi, if_neg (fun x => hc x.1)]; simp [hi]
theorem qIdentsB_idAll (l : List UInt8) : qIdentsB l = qIdAll l false := by
 rw [qIdAll_split, qIdentsB]
 cases e : qSplitOn 46 l with
 | nil => exact absurd e (qSplitOn_ne _ _)
 | cons h t => simp
theorem qNat46 (c : UInt8) : (c.toNat = 46) ↔ c = 46 := by
 constructor
 ·intro h; exact UInt8.toNat_inj.1 (by rw [h]; rfl)
 ·rintro rfl; rfl
def qStops : List UInt8 → Bool
 | [] => true
 | c :: _ => !isId c && c != 46
theorem qIdentGo_app (t : List UInt8) (ht : qStops t = true) : ∀ (l : List UInt8) (i n p : Nat), identGo (l ++ t) i n p = identGo l i n p
 | [], i, n, p => by
  cases t with
  | nil => rfl
  | cons c r =>
   simp [qStops] at ht
   simp only [List.nil_append, identGo, ht.1, qNat46, ht.2]; simp
 | c :: l, i, n, p => by
  rw [List.cons_append, identGo, identGo, qIdentGo_app t ht l, qIdentGo_app t ht l]
theorem qIdentGo_bound : ∀ (l : List UInt8) (i n p : Nat), n ≤ i → identGo l i n p ≤ i + l.length
 | [], i, n, p, h => by simp [identGo]; omega
 | c :: r, i, n, p, h => by
  simp only [identGo, List.length_cons]
  split
  ·have := qIdentGo_bound r (i + 1) (i + 1) (p + 1) (by omega); omega
  ·split
   ·have := qIdentGo_bound r (i + 1) n 0 (by omega); omega
   ·omega
theorem qIdentGo_all : ∀ (l : List UInt8) (i n p : Nat), n ≤ i → (0 < p ↔ n = i ∧ 0 < i) → (l ≠ [] ∨ 0 < i) → ((identGo l i n p = i + l.length) ↔ qIdAll l (decide (0 < p)) = true)
 | [], i, n, p, h, hp, h0 => by
  simp only [identGo, qIdAll, List.length_nil, Nat.add_zero, decide_eq_true_eq]
  rcases h0 with h0 | h0
  ·exact absurd rfl h0
  ·constructor
   ·intro e; exact hp.2 ⟨e, h0⟩
   ·intro e; exact (hp.1 e).1
 | c :: r, i, n, p, h, hp, h0 => by
  simp only [identGo, qIdAll, List.length_cons]
  by_cases hi : isId c = true
  ·rw [if_pos hi, if_pos hi]
   have ih := qIdentGo_all r (i + 1) (i + 1) (p + 1) (Nat.le_refl _) (by omega) (Or.inr (by omega))
   rw [show decide (0 < p + 1) = true from by simp] at ih
   rw [← ih]; omega
  ·rw [if_neg hi, if_neg hi]
   simp only [qNat46, decide_eq_true_eq]
   by_cases hd : c = 46 ∧ 0 < p
   ·rw [if_pos hd, if_pos hd]
    have ih := qIdentGo_all r (i + 1) n 0 (by omega) (by omega) (Or.inr (by omega))
    rw [show decide (0 < 0) = false from rfl] at ih
    rw [← ih]; omega
   ·rw [if_neg hd, if_neg hd]
    simp; omega
theorem qIdentN_all (l : List UInt8) : (l ≠ [] ∧ identN l = l.length) ↔ qIdentsB l = true := by
 rw [qIdentsB_idAll]
 cases l with
 | nil => simp [qIdAll]
 | cons c r =>
  have := qIdentGo_all (c :: r) 0 0 0 (Nat.le_refl _) (by omega) (Or.inl (by simp))
  rw [Nat.zero_add] at this
  simp only [ne_eq, reduceCtorEq, not_false_eq_true, true_and]
  exact this
theorem qPart_some {c : UInt8} {p t : List UInt8} (ht : qStops t = true) (h : qIdentsB p = true) : part c (c :: (p ++ t)) = some (p, t) := by
 obtain ⟨hne, hn⟩ := (qIdentN_all p).2 h
 have e : identN (p ++ t) = p.length := by rw [← hn]; exact qIdentGo_app t ht p 0 0 0
 have hl : p.length ≠ 0 := fun x => hne (List.length_eq_zero_iff.1 x)
 rw [part, if_pos rfl, e, if_neg hl, List.take_left, List.drop_left]
theorem qPart_bad {c : UInt8} {p t : List UInt8} (ht : qStops t = true) (h : qIdentsB p = false) :
  part c (c :: (p ++ t)) = none ∨ ∃ q x r, part c (c :: (p ++ t)) = some (q, x :: r ++ t) ∧ x :: r <:+ p := by
 have e : identN (p ++ t) = identN p := qIdentGo_app t ht p 0 0 0
 rw [part, if_pos rfl, e]
 by_cases h0 : identN p = 0
 ·left; rw [if_pos h0]
 ·right
  rw [if_neg h0]
  have hle : identN p ≤ p.length := by have := qIdentGo_bound p 0 0 0 (Nat.le_refl _); unfold identN; omega
  have hlt : identN p < p.length := by
   rcases Nat.lt_or_eq_of_le hle with h1 | h1
   ·exact h1
   ·exfalso
    have : qIdentsB p = true := (qIdentN_all p).1 ⟨fun x => by subst x; simp [identN, identGo] at h0, h1⟩
    rw [h] at this; cases this
  rw [List.drop_append_of_le_length hle]
  cases e2 : p.drop (identN p) with
  | nil => rw [List.drop_eq_nil_iff] at e2; omega
  | cons x r => exact ⟨_, x, r, rfl, by rw [← e2]; exact List.drop_suffix _ _⟩
theorem qCutAt_none : ∀ {c : UInt8} {l a : List UInt8}, qCutAt c l = (a, none) → a = l ∧ c ∉ l
 | c, [], a, h => by simp [qCutAt] at h; simp [h]
 | c, x :: r, a, h => by
  rw [qCutAt] at h
  split at h
  ·simp at h
  ·rename_i hx
   simp only [Prod.mk.injEq] at h
   have ih := qCutAt_none (c := c) (l := r) (a := (qCutAt c r).1) (by rw [← h.2])
   rw [← h.1, ih.1]
   exact ⟨rfl, by simp [ih.2, Ne.symm hx]⟩
theorem qCutAt_some : ∀ {c : UInt8} {l a b : List UInt8}, qCutAt c l = (a, some b) → l = a ++ c :: b ∧ c ∉ a
 | c, [], a, b, h => by simp [qCutAt] at h
 | c, x :: r, a, b, h => by
  rw [qCutAt] at h
  split at h
  ·rename_i hx
   simp only [Prod.mk.injEq, Option.some.injEq] at h
   rw [← h.1, ← h.2, hx]; simp
  ·rename_i hx
   simp only [Prod.mk.injEq] at h
   have ih := qCutAt_some (c := c) (l := r) (a := (qCutAt c r).1) (b := b) (by rw [← h.2])
   rw [← h.1]
   exact ⟨by rw [List.cons_append, ← ih.1], by simp [ih.2, Ne.symm hx]⟩
def qNoDig : List UInt8 → Bool
 | [] => true
 | c :: _ => !isDig c && c != 46
theorem qDigN_len : ∀ l : List UInt8, digN l ≤ l.length
 | [] => Nat.le_refl _
 | c :: r => by
  simp only [digN, List.length_cons]
  have := qDigN_len r
  split <;> omega
theorem qDigN_all : ∀ l : List UInt8, digN l = l.length ↔ l.all isDig = true
 | [] => by simp [digN]
 | c :: r => by
  have ih := qDigN_all r
  simp only [digN, List.length_cons, List.all_cons, Bool.and_eq_true]
  by_cases h : isDig c = true
  ·rw [if_pos h]; simp [h, ← ih]
  ·rw [if_neg h]; simp [h]
theorem parseM_dig : ∀ {M acc : Nat} {l : List UInt8} {u : Nat}, Lib.parseUintM M acc l = .ok u → l.all isDig = true
 | _, _, [], _, _ => rfl
 | M, acc, c :: r, u, h => by
  rw [Lib.parseUintM] at h
  split at h
  ·rename_i hc
   split at h
   ·cases h
   ·split at h
    ·cases h
    ·rw [List.all_cons, parseM_dig h]; simp [isDig, hc.1, hc.2]
  ·cases h
theorem qNumB_some {l : List UInt8} {u : Nat} (h : qNumB l = some u) : Lib.parseUintB 64 l = .ok u ∧ l ≠ [] ∧ l.all isDig = true := by
 unfold qNumB at h
 split at h
 ·rename_i x hx
  simp at h; subst h
  refine ⟨hx, ?_⟩
  unfold Lib.parseUintB at hx
  split at hx
  ·cases hx
  ·rename_i hne; exact ⟨hne, parseM_dig hx⟩
 ·cases h
theorem qNumOf_app {x t : List UInt8} (ht : t = [] ∨ ∃ c r, t = c :: r ∧ isDig c = false) :
  (∀ u, qNumB x = some u → numOf (x ++ t) = some (u, t)) ∧ (qNumB x = none → (∀ c r, x = c :: r → True) → numOf (x ++ t) = none ∨ ∃ a y r, numOf (x ++ t) = some (a, y :: r ++ t) ∧ isDig y = false ∧ y :: r <:+ x) := by
 have hd : digN (x ++ t) = digN x := by
  have : ∀ l, digN (l ++ t) = digN l := by
   intro l
   induction l with
   | nil =>
    rcases ht with rfl | ⟨c, r, rfl, hc⟩
    ·rfl
    ·simp [digN, hc]
   | cons c l ih => rw [List.cons_append, digN, digN, ih]
  exact this x
 refine ⟨?_, ?_⟩
 ·intro u hu
  obtain ⟨h1, h2, h3⟩ := qNumB_some hu
  have e := (qDigN_all x).2 h3
  have hl : x.length ≠ 0 := fun y => h2 (List.length_eq_zero_iff.1 y)
  rw [numOf, hd, e, if_neg hl, List.take_left, h1, List.drop_left]
 ·intro hn _
  unfold numOf
  rw [hd]
  by_cases h0 : digN x = 0
  ·left; rw [if_pos h0]
  ·rw [if_neg h0]
   have hle := qDigN_len x
   rw [List.take_append_of_le_length hle, List.drop_append_of_le_length hle]
   by_cases he : digN x = x.length
   ·left
    rw [he, List.take_length]
    unfold qNumB at hn
    split at hn
    ·cases hn
    ·rename_i hx
     cases hq : Lib.parseUintB 64 x <;> first | rfl | exact absurd hq (hx _)
   ·cases e2 : x.drop (digN x) with
    | nil => rw [List.drop_eq_nil_iff] at e2; omega
    | cons y r =>
     have hy : isDig y = false := by
      have : ∀ (l : List UInt8), l.drop (digN l) = y :: r → isDig y = false := by
       intro l
       induction l with
       | nil => simp
       | cons c l ih =>
        intro h
        rw [digN] at h
        split at h
        ·exact ih (by simpa using h)
        ·rename_i hc
         simp at h
         rw [← h.1]; simpa using hc
      exact this x e2
     split
     ·right; exact ⟨_, y, r, rfl, hy, by rw [← e2]; exact List.drop_suffix _ _⟩
     ·left; rfl
theorem qSplitOn_first (c : UInt8) (l : List UInt8) : ∃ x, c ∉ x ∧ ((l = x ∧ qSplitOn c l = [x]) ∨ ∃ r, l = x ++ c :: r ∧ qSplitOn c l = x :: qSplitOn c r) := by
 induction l with
 | nil => exact ⟨[], by simp, Or.inl ⟨rfl, rfl⟩⟩
 | cons y l ih =>
  by_cases hy : y = c
  ·subst hy
   exact ⟨[], by simp, Or.inr ⟨l, rfl, by rw [qSplitOn, if_pos rfl]⟩⟩
  ·obtain ⟨x, hx, h⟩ := ih
   refine ⟨y :: x, by simp [hx, Ne.symm hy], ?_⟩
   rcases h with ⟨rfl, h⟩ | ⟨r, rfl, h⟩
   ·left; exact ⟨rfl, by rw [qSplitOn, if_neg hy, h]⟩
   ·right; exact ⟨r, rfl, by rw [qSplitOn, if_neg hy, h]⟩
theorem qNoDig_alt {t : List UInt8} (h : qNoDig t = true) : t = [] ∨ ∃ c r, t = c :: r ∧ isDig c = false := by
 cases t with
 | nil => exact Or.inl rfl
 | cons c r => simp [qNoDig] at h; exact Or.inr ⟨c, r, rfl, h.1⟩
theorem qNums_app (t : List UInt8) (ht : qNoDig t = true) : ∀ (m : Nat) (acc : List Nat) (l : List UInt8),
  (∀ ns, (qSplitOn 46 l).length ≤ m → qNumsB (qSplitOn 46 l) = some ns → nums m acc (l ++ t) = some (acc ++ ns, t)) ∧
  ((m < (qSplitOn 46 l).length ∨ qNumsB (qSplitOn 46 l) = none) → nums m acc (l ++ t) = none ∨ ∃ ns y r, nums m acc (l ++ t) = some (ns, y :: r ++ t) ∧ y :: r <:+ l)
 | 0, acc, l => by
  refine ⟨fun ns h _ => ?_, fun _ => Or.inl rfl⟩
  have := qSplitOn_ne 46 l
  cases e : qSplitOn 46 l with
  | nil => exact absurd e this
  | cons a b => rw [e] at h; simp at h
 | m + 1, acc, l => by
  obtain ⟨x, hx, h⟩ := qSplitOn_first 46 l
  rcases h with ⟨rfl, h⟩ | ⟨r, rfl, h⟩
  ·-- one number
   obtain ⟨h1, h2⟩ := qNumOf_app (x := l) (qNoDig_alt ht)
   have hg : goOn t = false := by
    cases t with
    | nil => rfl
    | cons c r => simp [qNoDig] at ht; simp [goOn, ht.2]
   rw [h]
   refine ⟨?_, ?_⟩
   ·intro ns _ hns
    simp only [qNumsB] at hns
    cases hn : qNumB l with
    | none => rw [hn] at hns; simp at hns
    | some u =>
     rw [hn] at hns
     simp at hns
     subst hns
     rw [nums, h1 u hn]
     simp [hg]
   ·intro hbad
    have hn : qNumB l = none := by
     rcases hbad with hb | hb
     ·simp at hb
     ·simp only [qNumsB] at hb
      cases hn : qNumB l with
      | none => rfl
      | some u => rw [hn] at hb; simp at hb
    rcases h2 hn (fun _ _ _ => trivial) with e | ⟨a, y, r, e, hy, hm⟩
    ·left; rw [nums, e]
    ·have hy46 : y ≠ 46 := by
      intro e46
      subst e46
      skip
      exact hx (hm.subset (by simp))
     right
     refine ⟨acc ++ [a], y, r, ?_, hm⟩
     rw [nums, e]
     simp [goOn, hy46]
  ·-- a number, a dot, more
   have hdot : (46 : UInt8) :: (r ++ t) = [] ∨ ∃ c r', (46 : UInt8) :: (r ++ t) = c :: r' ∧ isDig c = false := Or.inr ⟨46, r ++ t, rfl, by decide⟩
   obtain ⟨h1, h2⟩ := qNumOf_app (x := x) hdot
   have eapp : x ++ 46 :: r ++ t = x ++ 46 :: (r ++ t) := by simp
   rw [h, eapp]
   have ih := qNums_app t ht m
   refine ⟨?_, ?_⟩
   ·intro ns hlen hns
    simp only [qNumsB] at hns
    cases hn : qNumB x with
    | none => rw [hn] at hns; simp at hns
    | some u =>
     rw [hn] at hns
     cases hr : qNumsB (qSplitOn 46 r) with
     | none => rw [hr] at hns; simp at hns
     | some b =>
      rw [hr] at hns
      simp at hns
      subst hns
      have hlen' : (qSplitOn 46 r).length ≤ m := by simpa using hlen
      have hm0 : 0 < m := by
       cases e : qSplitOn 46 r with
       | nil => exact absurd e (qSplitOn_ne _ _)
       | cons a b => rw [e] at hlen'; simp at hlen'; omega
      rw [nums, h1 u hn]
      simp only [goOn, beq_self_eq_true, Bool.true_and, decide_eq_true_eq, if_pos hm0, List.drop_one, List.tail_cons]
      rw [(ih (acc ++ [u]) r).1 b hlen' hr]
      simp
   ·intro hbad
    cases hn : qNumB x with
    | none =>
     rcases h2 hn (fun _ _ _ => trivial) with e | ⟨a, y, q, e, hy, hm⟩
     ·left; rw [nums, e]
     ·have hy46 : y ≠ 46 := by
       intro e46
       subst e46
       skip
       exact hx (hm.subset (by simp))
      right
      refine ⟨acc ++ [a], y, q ++ 46 :: r, ?_, ?_⟩
      ·rw [nums, e]
       simp [goOn, hy46]
      ·skip
       obtain ⟨z, hz⟩ := hm
       exact ⟨z, by rw [← hz]; simp⟩
    | some u =>
     rw [nums, h1 u hn]
     by_cases hm0 : 0 < m
     ·simp only [goOn, beq_self_eq_true, Bool.true_and, decide_eq_true_eq, if_pos hm0, List.drop_one, List.tail_cons]
      have hb' : m < (qSplitOn 46 r).length ∨ qNumsB (qSplitOn 46 r) = none := by
       rcases hbad with hb | hb
       ·left; simpa using hb
       ·right
        simp only [qNumsB, hn] at hb
        cases hr : qNumsB (qSplitOn 46 r) with
        | none => rfl
        | some b => rw [hr] at hb; simp at hb
      rcases (ih (acc ++ [u]) r).2 hb' with e | ⟨ns, y, q, e, hm⟩
      ·left; exact e
      ·right
       refine ⟨ns, y, q, e, ?_⟩
       skip
       exact hm.trans ⟨x ++ [46], by simp⟩
     ·right
      have hm00 : m = 0 := by omega
      subst hm00
      refine ⟨acc ++ [u], 46, r, ?_, ?_⟩
      ·simp [goOn]
      ·exact ⟨x, rfl⟩
def qReadB (s : ByteArray) : Option (SV × Nat) := (qSemB0 s.data.toList).map fun (ns, pre, mt) => (⟨ns.getD 0 0, ns.getD 1 0, ns.getD 2 0, ⟨pre.toArray⟩, ⟨mt.toArray⟩, s⟩, ns.length)
theorem qPart_other {c x : UInt8} {r : List UInt8} (h : x ≠ c) : part c (x :: r) = some ([], x :: r) := by rw [part, if_neg h]
theorem readV_eq (s : ByteArray) : readV s = qReadB s := by
 unfold readV qReadB qSemB0
 generalize bare0 s.data.toList = l
 rcases ha : qCutAt 43 l with ⟨l1, om⟩
 rcases hb : qCutAt 45 l1 with ⟨l2, op⟩
 simp only [hb]
 -- what is behind the numbers
 have key : ∃ tm tp, (om = none ∧ tm = [] ∨ ∃ m, om = some m ∧ tm = 43 :: m) ∧ (op = none ∧ tp = [] ∨ ∃ p, op = some p ∧ tp = 45 :: p) ∧ l = l2 ++ (tp ++ tm) ∧ (43 : UInt8) ∉ l2 ++ tp ∧ (45 : UInt8) ∉ l2 := by
  have h1 : ∃ tm, (om = none ∧ tm = [] ∨ ∃ m, om = some m ∧ tm = 43 :: m) ∧ l = l1 ++ tm ∧ (43 : UInt8) ∉ l1 := by
   cases om with
   | none => obtain ⟨h1, h2⟩ := qCutAt_none ha; subst h1; exact ⟨[], Or.inl ⟨rfl, rfl⟩, by simp, h2⟩
   | some m => obtain ⟨h1, h2⟩ := qCutAt_some ha; exact ⟨43 :: m, Or.inr ⟨m, rfl, rfl⟩, h1, h2⟩
  obtain ⟨tm, hm1, hm2, hm3⟩ := h1
  have h2 : ∃ tp, (op = none ∧ tp = [] ∨ ∃ p, op = some p ∧ tp = 45 :: p) ∧ l1 = l2 ++ tp ∧ (45 : UInt8) ∉ l2 := by
   cases op with
   | none => obtain ⟨h1, h2⟩ := qCutAt_none hb; subst h1; exact ⟨[], Or.inl ⟨rfl, rfl⟩, by simp, h2⟩
   | some p => obtain ⟨h1, h2⟩ := qCutAt_some hb; exact ⟨45 :: p, Or.inr ⟨p, rfl, rfl⟩, h1, h2⟩
  obtain ⟨tp, hp1, hp2, hp3⟩ := h2
  exact ⟨tm, tp, hm1, hp1, by rw [hm2, hp2]; simp, by rw [← hp2]; exact hm3, hp3⟩
 obtain ⟨tm, tp, htm, htp, rfl, h43, h45⟩ := key
 clear ha hb
 have nd : qNoDig (tp ++ tm) = true := by
  rcases htp with ⟨_, rfl⟩ | ⟨p, _, rfl⟩
  ·rcases htm with ⟨_, rfl⟩ | ⟨m, _, rfl⟩
   ·rfl
   ·simp [qNoDig]; decide
  ·simp [qNoDig]; decide
 have stm : qStops tm = true := by
  rcases htm with ⟨_, rfl⟩ | ⟨m, _, rfl⟩
  ·rfl
  ·simp [qStops]; decide
 have h43l : (43 : UInt8) ∉ l2 := fun h => h43 (List.mem_append_left _ h)
 have h43p : (43 : UInt8) ∉ tp := fun h => h43 (List.mem_append_right _ h)
 have bad : ∀ (x : UInt8) (r : List UInt8), x ≠ 45 → x ≠ 43 → (match part 45 (x :: r) with
  | none => none
  | some (pre, r1) => match part 43 r1 with
   | none => none
   | some (mt, r2) => if r2 = [] then some ((⟨([] : List Nat).getD 0 0, 0, 0, ⟨pre.toArray⟩, ⟨mt.toArray⟩, s⟩ : SV), 0) else none) = none := by
  intro x r h1 h2
  rw [qPart_other h1]; simp only; rw [qPart_other h2]; simp
 -- behind the dash
 have tailm : ∀ (ns : List Nat) (pre : List UInt8), (match part 43 tm with
   | none => none
   | some (mt, r2) => if r2 = [] then some ((⟨ns.getD 0 0, ns.getD 1 0, ns.getD 2 0, ⟨pre.toArray⟩, ⟨mt.toArray⟩, s⟩ : SV), ns.length) else none)
   = (qOptB om).map fun mt => (⟨ns.getD 0 0, ns.getD 1 0, ns.getD 2 0, ⟨pre.toArray⟩, ⟨mt.toArray⟩, s⟩, ns.length) := by
  intro ns pre
  rcases htm with ⟨rfl, rfl⟩ | ⟨m, rfl, rfl⟩
  ·simp [part, qOptB]
  ·by_cases hi : qIdentsB m = true
   ·have := qPart_some (c := 43) (p := m) (t := []) rfl hi
    rw [List.append_nil] at this
    rw [this]; simp [qOptB, hi]
   ·have := qPart_bad (c := 43) (p := m) (t := []) rfl (by simpa using hi)
    rw [List.append_nil] at this
    rcases this with e | ⟨q, x, r, e, _⟩
    ·rw [e]; simp [qOptB, hi]
    ·rw [e]; simp [qOptB, hi]
 have tailp : ∀ (ns : List Nat), (match part 45 (tp ++ tm) with
   | none => none
   | some (pre, r1) => match part 43 r1 with
    | none => none
    | some (mt, r2) => if r2 = [] then some ((⟨ns.getD 0 0, ns.getD 1 0, ns.getD 2 0, ⟨pre.toArray⟩, ⟨mt.toArray⟩, s⟩ : SV), ns.length) else none)
   = match qOptB om with
    | none => none
    | some mt => (qOptB op).map fun pre => (⟨ns.getD 0 0, ns.getD 1 0, ns.getD 2 0, ⟨pre.toArray⟩, ⟨mt.toArray⟩, s⟩, ns.length) := by
  intro ns
  rcases htp with ⟨rfl, rfl⟩ | ⟨p, rfl, rfl⟩
  ·have e : part 45 ([] ++ tm) = some ([], tm) := by
    rw [List.nil_append]
    rcases htm with ⟨_, rfl⟩ | ⟨m, _, rfl⟩
    ·rfl
    ·exact qPart_other (by decide)
   rw [e]
   simp only
   rw [tailm ns []]
   cases qOptB om <;> simp [qOptB]
  ·by_cases hi : qIdentsB p = true
   ·rw [List.cons_append, qPart_some stm hi]
    simp only
    rw [tailm ns p]
    cases qOptB om <;> simp [qOptB, hi]
   ·have ho : qOptB (some p) = none := by simp [qOptB, hi]
    rw [ho]
    have e0 : (match qOptB om with | none => none | some mt => (none : Option (List UInt8)).map fun pre => ((⟨ns.getD 0 0, ns.getD 1 0, ns.getD 2 0, ⟨pre.toArray⟩, ⟨mt.toArray⟩, s⟩ : SV), ns.length)) = none := by
     cases qOptB om <;> rfl
    rw [e0, List.cons_append]
    rcases qPart_bad stm (by simpa using hi : qIdentsB p = false) with e | ⟨q, x, r, e, hm⟩
    ·rw [e]
    ·rw [e]
     have hx : x ≠ 43 := by
      rintro rfl
      skip
      exact h43p (List.mem_cons_of_mem _ (hm.subset (by simp)))
     simp only [List.cons_append]
     rw [qPart_other hx]; simp
 obtain ⟨n1, n2⟩ := qNums_app (tp ++ tm) nd 3 [] l2
 by_cases hgood : (qSplitOn 46 l2).length ≤ 3 ∧ ∃ ns, qNumsB (qSplitOn 46 l2) = some ns
 ·obtain ⟨hlen, ns, hns⟩ := hgood
  rw [n1 ns hlen hns]
  simp only [List.nil_append]
  refine (tailp ns).trans ?_
  cases qOptB om with
  | none => rfl
  | some mt =>
   cases qOptB op with
   | none => rfl
   | some pre => simp only [if_neg (show ¬ 3 < (qSplitOn 46 l2).length by omega), hns]; rfl
 ·have hb' : 3 < (qSplitOn 46 l2).length ∨ qNumsB (qSplitOn 46 l2) = none := by
   by_cases h3 : (qSplitOn 46 l2).length ≤ 3
   ·right
    cases e : qNumsB (qSplitOn 46 l2) with
    | none => rfl
    | some ns => exact absurd ⟨h3, ns, e⟩ hgood
   ·left; omega
  have hr : (match qOptB om with
   | none => none
   | some mt => match qOptB op with
    | none => none
    | some pre => if 3 < (qSplitOn 46 l2).length then none else match qNumsB (qSplitOn 46 l2) with
     | none => none
     | some ns => some (ns, pre, mt)) = (none : Option (List Nat × List UInt8 × List UInt8)) := by
   cases qOptB om with
   | none => rfl
   | some mt => cases qOptB op with
    | none => rfl
    | some pre =>
     simp only
     split
     ·rfl
     ·rcases hb' with h | h
      ·omega
      ·rw [h]
  rw [hr]
  rcases n2 hb' with e | ⟨ns, y, r, e, hm⟩
  ·rw [e]; rfl
  ·rw [e]
   skip
   have hy1 : y ≠ 45 := by rintro rfl; exact h45 (hm.subset (by simp))
   have hy2 : y ≠ 43 := by rintro rfl; exact h43l (hm.subset (by simp))
   simp only [List.cons_append]
   rw [qPart_other hy1]; simp only
   rw [qPart_other hy2]; simp
end Go.Proofs.YtgoeiflddikihaaGreatDoor.Ver
end
section
namespace Go.Proofs.YtgoeiflddikihaaGreatDoor.Ver
open Go.RowKit Go.Proofs.YtgoeiflddikihaaGreatDoor.PFnVersion Go.Proofs.YtgoeiflddikihaaGreatDoorW.PrintWords
abbrev mkB (l : List UInt8) : ByteArray := ⟨l.toArray⟩
theorem mkB_of {s : ByteArray} {l : List UInt8} (h : s.data.toList = l) : s = mkB l := by
  apply ByteArray.ext; show s.data = l.toArray; rw [← h, Array.toArray_toList]
theorem bt_same (s : ByteArray) (i : Nat) (h : i < s.size) (c : UInt8) : (bt s (i : Int) = (c.toNat : Int)) ↔ s[i] = c := by
  rw [bt_nat s i h]
  constructor
  · intro e; exact UInt8.toNat_inj.1 (by omega)
  · rintro e; rw [e]
theorem plain_tells (s : ByteArray) (hn : s.size ≤ 140737488351232) (d : Nat) : ∀ i, i ≤ s.size → s.size - i = d → ∃ b k0, (∀ k, k0 ≤ k → spec_VerPlain.l0 k s 60 (i : Int) = some b) ∧ (b = true → 0 < s.size ∧ s.size ≤ 60) := by
  have last : ∀ i : Nat, s.size ≤ i ∨ 60 < i → ∃ b k0, (∀ k, k0 ≤ k → spec_VerPlain.l0 k s 60 (i : Int) = some b) ∧ (b = true → 0 < s.size ∧ s.size ≤ 60) := by
    intro i hi
    refine ⟨if 0 < s.size then decide (s.size ≤ 60) else false, 2, fun k hk => ?_, fun hb => ?_⟩
    · obtain ⟨k, rfl⟩ : ∃ j, k = j + 2 := ⟨k - 2, by omega⟩
      have e : spec_VerPlain.j1 (k + 1) s 60 (i : Int) false = some (if 0 < s.size then decide (s.size ≤ 60) else false) := by
        rw [spec_VerPlain.j1, if_neg (by decide)]
        by_cases h : 0 < s.size
        · rw [if_pos (by omega), if_pos h]; congr 1; simp only [decide_eq_decide]; omega
        · rw [if_neg (by omega), if_neg h]
      rw [spec_VerPlain.l0]
      by_cases h : (i : Int) < (s.size : Int)
      · rw [if_pos h, decide_eq_false (by omega)]; exact e
      · rw [if_neg h]; exact e
    · split at hb
      · exact ⟨by assumption, of_decide_eq_true hb⟩
      · cases hb
  induction d with
  | zero => intro i hi hd; exact last i (Or.inl (by omega))
  | succ d ih =>
    intro i hi hd
    by_cases h60 : 60 < i
    · exact last i (Or.inr h60)
    · obtain ⟨b, k0, h1, h2⟩ := ih (i + 1) (by omega) (by omega)
      have w1 : wrap64 ((i : Int) + 1) = ((i + 1 : Nat) : Int) := by rw [wrap_in (by omega) (by omega)]; omega
      by_cases hc : bt s (i : Int) < 33 ∨ bt s (i : Int) > 126
      · refine ⟨false, 2, fun k hk => ?_, fun hb => by cases hb⟩
        obtain ⟨k, rfl⟩ : ∃ j, k = j + 2 := ⟨k - 2, by omega⟩
        rw [spec_VerPlain.l0, if_pos (by omega), decide_eq_true (by omega), spec_VerPlain.j1, if_pos rfl, if_pos (by omega), if_pos (by omega)]
        by_cases hx : bt s (i : Int) < 33
        · rw [if_pos hx]
        · rw [if_neg hx, if_pos (by omega)]
      · refine ⟨b, k0 + 2, fun k hk => ?_, h2⟩
        obtain ⟨k, rfl⟩ : ∃ j, k = j + 2 := ⟨k - 2, by omega⟩
        rw [spec_VerPlain.l0, if_pos (by omega), decide_eq_true (by omega), spec_VerPlain.j1, if_pos rfl, if_pos (by omega), if_pos (by omega), if_neg (by omega), if_neg (by omega), w1]
        exact h1 k (by omega)
def cutV (s : ByteArray) (pre : List UInt8) (q : List UInt8 × Option (List UInt8)) : ByteArray × ByteArray × Bool := match q.2 with
  | none => (s, ⟨#[]⟩, false)
  | some b => (mkB (pre ++ q.1), mkB b, true)
theorem cut_tells (s : ByteArray) (hn : s.size ≤ 140737488351232) (c : UInt8) (d : Nat) : ∀ i, i ≤ s.size → s.size - i = d → ∀ k, d < k →
    spec_verCut.l0 k s (c.toNat : Int) (i : Int) = some (cutV s (s.data.toList.take i) (qCutAt c (s.data.toList.drop i))) := by
  induction d with
  | zero =>
    intro i hi hd k hk
    obtain ⟨k, rfl⟩ : ∃ j, k = j + 1 := ⟨k - 1, by omega⟩
    rw [spec_verCut.l0, if_neg (by omega), List.drop_eq_nil_of_le (by rw [Array.length_toList]; show s.size ≤ i; omega)]
    rfl
  | succ d ih =>
    intro i hi hd k hk
    obtain ⟨k, rfl⟩ : ∃ j, k = j + 1 := ⟨k - 1, by omega⟩
    have hlt : i < s.size := by omega
    have w1 : wrap64 ((i : Int) + 1) = ((i + 1 : Nat) : Int) := by rw [wrap_in (by omega) (by omega)]; omega
    rw [drop_at s i hlt, spec_verCut.l0, if_pos (by omega), if_pos (by omega), w1]
    by_cases hc : s[i] = c
    · rw [if_pos ((bt_same s i hlt c).2 hc), if_pos (by omega), if_pos (by omega), if_pos (by omega), qCutAt, if_pos hc]
      have e1 : s.extract 0 ((i : Int)).toNat = mkB (s.data.toList.take i ++ []) := mkB_of (by rw [Int.toNat_natCast, take_data, List.append_nil])
      have e2 : s.extract (((i + 1 : Nat) : Int)).toNat s.size = mkB (s.data.toList.drop (i + 1)) := mkB_of (by rw [Int.toNat_natCast, drop_data])
      rw [e1, e2]; rfl
    · rw [if_neg (fun h => hc ((bt_same s i hlt c).1 h)), ih (i + 1) (by omega) (by omega) k (by omega), qCutAt, if_neg hc]
      have e : s.data.toList.take (i + 1) = s.data.toList.take i ++ [s[i]] := by
        rw [List.take_succ_eq_append_getElem (by rw [Array.length_toList]; exact hlt)]; rfl
      unfold cutV
      rw [e]
      cases (qCutAt c (s.data.toList.drop (i + 1))).2 <;> simp
def splitV (pre : List UInt8) (q : List (List UInt8)) : List ByteArray := match q with
  | h :: t => mkB (pre ++ h) :: t.map mkB
  | [] => []
theorem split_tells (s : ByteArray) (hn : s.size ≤ 1000000000) (c : UInt8) (d : Nat) : ∀ (i f : Nat) (acc : List ByteArray), f ≤ i → i ≤ s.size → s.size - i = d → acc.length + d < 8000000000000 → ∀ k, d + 1 < k →
    spec_verSplit.l0 k s (c.toNat : Int) acc (f : Int) (i : Int) = some (acc ++ splitV ((s.data.toList.take i).drop f) (qSplitOn c (s.data.toList.drop i))) := by
  have ex : ∀ f i : Nat, s.extract ((f : Int)).toNat ((i : Int)).toNat = mkB ((s.data.toList.take i).drop f) := fun f i => mkB_of (by
    rw [Int.toNat_natCast, Int.toNat_natCast, ByteArray.data_extract, Array.toList_extract]
    simp only [List.extract_eq_take_drop]
    rw [List.drop_take])
  induction d with
  | zero =>
    intro i f acc hf hi hd ha k hk
    obtain ⟨k, rfl⟩ : ∃ j, k = j + 2 := ⟨k - 2, by omega⟩
    have w1 : wrap64 ((i : Int) + 1) = ((i + 1 : Nat) : Int) := by rw [wrap_in (by omega) (by omega)]; omega
    have hnil : s.data.toList.drop i = [] := List.drop_eq_nil_of_le (by rw [Array.length_toList]; show s.size ≤ i; omega)
    rw [spec_verSplit.l0, if_pos (by omega), if_pos (by omega), if_pos (by omega), if_pos (by omega), if_pos (by omega), w1, spec_verSplit.l0, if_neg (by omega), hnil, ex]
    simp [qSplitOn, splitV]
  | succ d ih =>
    intro i f acc hf hi hd ha k hk
    obtain ⟨k, rfl⟩ : ∃ j, k = j + 1 := ⟨k - 1, by omega⟩
    have hlt : i < s.size := by omega
    have w1 : wrap64 ((i : Int) + 1) = ((i + 1 : Nat) : Int) := by rw [wrap_in (by omega) (by omega)]; omega
    rw [drop_at s i hlt, spec_verSplit.l0, if_pos (by omega), if_neg (by omega), if_pos (by omega), if_pos (by omega), w1]
    by_cases hc : s[i] = c
    · rw [if_pos ((bt_same s i hlt c).2 hc), if_pos (by omega), if_pos (by omega), if_pos (by omega), ih (i + 1) (i + 1) _ (by omega) (by omega) (by omega) (by rw [List.length_append, List.length_singleton]; omega) k (by omega), qSplitOn, if_pos hc, ex]
      have e : (s.data.toList.take (i + 1)).drop (i + 1) = [] := List.drop_eq_nil_of_le (by rw [List.length_take]; omega)
      rw [e, List.append_assoc]
      cases hq : qSplitOn c (s.data.toList.drop (i + 1)) with
      | nil => exact absurd hq (qSplitOn_ne _ _)
      | cons h t => simp [splitV]
    · rw [if_neg (fun h => hc ((bt_same s i hlt c).1 h)), ih (i + 1) f acc (by omega) (by omega) (by omega) (by omega) k (by omega)]
      obtain ⟨p, q, h1, h2⟩ := qSplitOn_cons (r := s.data.toList.drop (i + 1)) hc
      rw [h1, h2]
      have e : (s.data.toList.take (i + 1)).drop f = (s.data.toList.take i).drop f ++ [s[i]] := by
        rw [List.take_succ_eq_append_getElem (by rw [Array.length_toList]; exact hlt), List.drop_append_of_le_length (by rw [List.length_take, Array.length_toList]; show f ≤ min i s.size; omega)]; rfl
      rw [e]; simp [splitV]
def partsV (c : UInt8) (s : ByteArray) : List ByteArray := (qSplitOn c s.data.toList).map mkB
theorem split_f (s : ByteArray) (hn : s.size ≤ 1000000000) (c : UInt8) (k : Nat) (hk : s.size + 1 < k) : spec_verSplit.f k s (c.toNat : Int) = some (partsV c s) := by
  have := split_tells s hn c s.size 0 0 [] (Nat.le_refl _) (Nat.zero_le _) (by omega) (by rw [List.length_nil]; omega) k hk
  rw [spec_verSplit.f]
  refine this.trans ?_
  unfold partsV
  cases hq : qSplitOn c s.data.toList with
  | nil => exact absurd hq (qSplitOn_ne _ _)
  | cons h t => simp [splitV, hq]
theorem or_tab : ∀ n : Fin 256, (Go.bits .or .u8 ((n.val : Nat) : Int) 32 < 97 ∨ 122 < Go.bits .or .u8 ((n.val : Nat) : Int) 32) ↔ ¬ ((97 ≤ n.val ∧ n.val ≤ 122) ∨ (65 ≤ n.val ∧ n.val ≤ 90)) := by decide +kernel
theorem or_id (c : UInt8) : (Go.bits .or .u8 ((c.toNat : Nat) : Int) 32 < 97 ∨ 122 < Go.bits .or .u8 ((c.toNat : Nat) : Int) 32) ↔ ¬ ((97 ≤ c.toNat ∧ c.toNat ≤ 122) ∨ (65 ≤ c.toNat ∧ c.toNat ≤ 90)) :=
  or_tab ⟨c.toNat, c.toNat_lt⟩
theorem tree_id {α : Type} (c : UInt8) (S B : α) : (if (c.toNat : Int) < 48 then (if (c.toNat : Int) = 45 then S else B) else (if (c.toNat : Int) > 57 then (if (c.toNat : Int) = 45 then S else B) else S)) = if isDig c = true ∨ c.toNat = 45 then S else B := by
  have hd : isDig c = true ↔ 48 ≤ c.toNat ∧ c.toNat ≤ 57 := by simp only [isDig, Bool.and_eq_true, decide_eq_true_eq]
  by_cases h1 : (c.toNat : Int) < 48
  · rw [if_pos h1]
    by_cases h2 : (c.toNat : Int) = 45
    · rw [if_pos h2, if_pos (Or.inr (by omega))]
    · rw [if_neg h2, if_neg (by rw [hd]; omega)]
  · rw [if_neg h1]
    by_cases h2 : (c.toNat : Int) > 57
    · rw [if_pos h2, if_neg (by omega), if_neg (by rw [hd]; omega)]
    · rw [if_neg h2, if_pos (by rw [hd]; omega)]
theorem tree_or {α : Type} (o : Int) (T S : α) : (if o < 97 then T else if o > 122 then T else S) = if o < 97 ∨ 122 < o then T else S := by
  by_cases h1 : o < 97
  · rw [if_pos h1, if_pos (Or.inl h1)]
  · by_cases h2 : o > 122
    · rw [if_neg h1, if_pos h2, if_pos (Or.inr h2)]
    · rw [if_neg h1, if_neg h2, if_neg (by omega)]
set_option maxHeartbeats 4000000 in
theorem idents_tells (L : List ByteArray) (hL : ∀ x ∈ L, x.size ≤ 140737488351232) (hl : L.length ≤ 1000000000) (d : Nat) : ∀ j : Nat, j ≤ L.length → L.length - j = d → ∃ k0, ∀ k, k0 ≤ k →
    spec_verIdents.l0 k L L (L.length : Int) (j : Int) = some (if (L.drop j).all (fun x => !x.data.toList.isEmpty && x.data.toList.all isId) then (L, true) else ([], false)) := by
  induction d with
  | zero =>
    intro j hj hd
    refine ⟨1, fun k hk => ?_⟩
    obtain ⟨k, rfl⟩ : ∃ i, k = i + 1 := ⟨k - 1, by omega⟩
    rw [spec_verIdents.l0, if_neg (by omega), List.drop_eq_nil_of_le (by omega)]
    rfl
  | succ d ih =>
    intro j hj hd
    have hlt : j < L.length := by omega
    obtain ⟨k0, ih⟩ := ih (j + 1) (by omega) (by omega)
    generalize hx : L[j] = x
    have hxs : x.size ≤ 140737488351232 := hL x (by rw [← hx]; exact List.getElem_mem hlt)
    have hrd : rdOf ByteArray.empty L (j : Int) = x := by
      rw [← hx]; simp [rdOf, hlt]
    have hdrop : L.drop j = x :: L.drop (j + 1) := by rw [List.drop_eq_getElem_cons hlt, hx]
    -- the bytes of the piece
    have inner : ∀ e i : Nat, i ≤ x.size → x.size - i = e → ∃ k1, ∀ k, k1 ≤ k →
        spec_verIdents.l1 k L x (i : Int) L (L.length : Int) (j : Int) = some (if (x.data.toList.drop i).all isId && !x.data.toList.isEmpty && (L.drop (j + 1)).all (fun x => !x.data.toList.isEmpty && x.data.toList.all isId) then (L, true) else ([], false)) := by
      intro e
      induction e with
      | zero =>
        intro i hi he
        refine ⟨k0 + 1, fun k hk => ?_⟩
        obtain ⟨k, rfl⟩ : ∃ i, k = i + 1 := ⟨k - 1, by omega⟩
        rw [spec_verIdents.l1, if_neg (by omega), List.drop_eq_nil_of_le (by rw [Array.length_toList]; show x.size ≤ i; omega)]
        by_cases hn : x.data.toList = []
        · have : x.toList = [] := by rw [ByteArray.toList_eq]; exact hn
          rw [if_pos this, hn]; simp
        · have : ¬ x.toList = [] := by rw [ByteArray.toList_eq]; exact hn
          have w1 : wrap64 ((j : Int) + 1) = ((j + 1 : Nat) : Int) := by rw [wrap_in (by omega) (by omega)]; omega
          rw [if_neg this, w1, ih k (by omega)]
          have : x.data.toList.isEmpty = false := by cases h : x.data.toList with | nil => exact absurd h hn | cons _ _ => rfl
          rw [this]; simp
      | succ e ihe =>
        intro i hi he
        have hlti : i < x.size := by omega
        obtain ⟨k1, ihe⟩ := ihe (i + 1) (by omega) (by omega)
        refine ⟨k1 + 1, fun k hk => ?_⟩
        obtain ⟨k, rfl⟩ : ∃ i, k = i + 1 := ⟨k - 1, by omega⟩
        have w2 : wrap64 ((i : Int) + 1) = ((i + 1 : Nat) : Int) := by rw [wrap_in (by omega) (by omega)]; omega
        have e1 := ihe k (by omega)
        have g1 : (i : Int) < (x.size : Int) := Int.ofNat_lt.2 hlti
        have g2 : (0 : Int) ≤ (i : Int) := Int.natCast_nonneg i
        rw [drop_at x i hlti, spec_verIdents.l1, if_pos g1, if_pos g2, bt_nat x i hlti, w2, List.all_cons]
        generalize spec_verIdents.l1 k L x ((i + 1 : Nat) : Int) L (L.length : Int) (j : Int) = S at e1 ⊢
        generalize x[i] = c
        have ho := or_id c
        generalize Go.bits .or .u8 ((c.toNat : Nat) : Int) 32 = o at *
        rw [tree_id, tree_or]
        have hid : (isId c = true) ↔ ((isDig c = true ∨ c.toNat = 45) ∨ ((97 ≤ c.toNat ∧ c.toNat ≤ 122) ∨ (65 ≤ c.toNat ∧ c.toNat ≤ 90))) := by
          simp only [isId, Bool.or_eq_true, Bool.and_eq_true, decide_eq_true_eq, beq_iff_eq]
          cases isDig c <;> simp <;> omega
        by_cases h1 : isId c = true
        · rw [h1, Bool.true_and, e1]
          by_cases h2 : o < 97 ∨ 122 < o
          · rw [if_pos h2, if_pos ((hid.1 h1).resolve_right (ho.1 h2))]
          · rw [if_neg h2]
        · have hf : isId c = false := by simpa using h1
          rw [hf, Bool.false_and, Bool.false_and, Bool.false_and, if_pos (ho.2 fun h => h1 (hid.2 (Or.inr h))), if_neg (fun h => h1 (hid.2 (Or.inl h)))]
          rfl
    obtain ⟨k1, inn⟩ := inner x.size 0 (Nat.zero_le _) (by omega)
    refine ⟨k1 + 1, fun k hk => ?_⟩
    obtain ⟨k, rfl⟩ : ∃ i, k = i + 1 := ⟨k - 1, by omega⟩
    rw [spec_verIdents.l0, if_pos (by omega), if_pos (by omega), if_pos (by omega), hrd, hdrop, List.all_cons]
    refine (inn k (by omega)).trans ?_
    rw [List.drop_zero, Bool.and_comm (!_) _]
theorem parts_len (c : UInt8) : ∀ l : List UInt8, (qSplitOn c l).length ≤ l.length + 1
  | [] => Nat.le_refl _
  | x :: r => by
    have := parts_len c r
    by_cases h : x = c
    · rw [qSplitOn, if_pos h]; simp; omega
    · obtain ⟨p, q, h1, h2⟩ := qSplitOn_cons (r := r) h
      rw [h2]; rw [h1] at this; simp at this ⊢; omega
theorem parts_size (c : UInt8) : ∀ l : List UInt8, ∀ x ∈ qSplitOn c l, x.length ≤ l.length
  | [], x, hx => by simp [qSplitOn] at hx; simp [hx]
  | y :: r, x, hx => by
    have ih := parts_size c r
    by_cases h : y = c
    · rw [qSplitOn, if_pos h] at hx
      rcases List.mem_cons.1 hx with rfl | hx
      · simp
      · have := ih x hx; simp; omega
    · obtain ⟨p, q, h1, h2⟩ := qSplitOn_cons (r := r) h
      rw [h2] at hx; rw [h1] at ih
      rcases List.mem_cons.1 hx with rfl | hx
      · have := ih p (List.mem_cons_self ..); simp; omega
      · have := ih x (List.mem_cons_of_mem _ hx); simp; omega
theorem idents_f (s : ByteArray) (hn : s.size ≤ 100000000) : ∃ k, spec_verIdents.f k s = some (if qIdentsB s.data.toList then (partsV 46 s, true) else ([], false)) := by
  have hlen : (partsV 46 s).length ≤ s.size + 1 := by
    unfold partsV; rw [List.length_map]
    have := parts_len 46 s.data.toList
    rw [Array.length_toList] at this; exact this
  have hmem : ∀ x ∈ partsV 46 s, x.size ≤ 140737488351232 := by
    intro x hx
    obtain ⟨y, hy, rfl⟩ := List.mem_map.1 hx
    have := parts_size 46 s.data.toList y hy
    rw [Array.length_toList] at this
    have h2 : s.data.size = s.size := rfl
    have h3 : (mkB y).size = y.length := by show y.toArray.size = _; rw [List.size_toArray]
    have h4 : s.data.toList.length = s.size := by rw [Array.length_toList]; rfl
    have h5 := parts_size 46 s.data.toList y hy
    clear h2 this
    rw [h3]; omega
  obtain ⟨k0, h⟩ := idents_tells (partsV 46 s) hmem (by omega) (partsV 46 s).length 0 (Nat.zero_le _) (by omega)
  refine ⟨k0 + s.size + 2, ?_⟩
  have h46 : ((46 : UInt8).toNat : Int) = 46 := rfl
  have hs := split_f s (by omega) 46 (k0 + s.size + 2) (by omega)
  rw [h46] at hs
  rw [spec_verIdents.f, hs]
  show spec_verIdents.l0 _ _ _ _ _ = _
  refine (h _ (by omega)).trans ?_
  rw [List.drop_zero]
  have e : (partsV 46 s).all (fun x => !x.data.toList.isEmpty && x.data.toList.all isId) = qIdentsB s.data.toList := by
    unfold partsV qIdentsB
    rw [List.all_map]; rfl
  rw [e]
theorem digits_tells (s : ByteArray) (hn : s.size ≤ 140737488351232) (d : Nat) : ∀ i, i ≤ s.size → s.size - i = d → ∀ k, d < k →
    spec_verDigits.l0 k s (i : Int) = some ((s.data.toList.drop i).all isDig && (!s.data.toList.isEmpty || decide (i < s.size))) := by
  induction d with
  | zero =>
    intro i hi hd k hk
    obtain ⟨k, rfl⟩ : ∃ j, k = j + 1 := ⟨k - 1, by omega⟩
    rw [spec_verDigits.l0, if_neg (by omega), List.drop_eq_nil_of_le (by rw [Array.length_toList]; show s.size ≤ i; omega), decide_eq_false (by omega), ByteArray.toList_eq]
    cases s.data.toList <;> rfl
  | succ d ih =>
    intro i hi hd k hk
    obtain ⟨k, rfl⟩ : ∃ j, k = j + 1 := ⟨k - 1, by omega⟩
    have hlt : i < s.size := by omega
    have w1 : wrap64 ((i : Int) + 1) = ((i + 1 : Nat) : Int) := by rw [wrap_in (by omega) (by omega)]; omega
    have hne : s.data.toList.isEmpty = false := by
      cases h : s.data.toList with
      | nil => exfalso; have : s.data.toList.length = 0 := by rw [h]; rfl
               rw [Array.length_toList] at this; have h2 : s.data.size = s.size := rfl; omega
      | cons _ _ => rfl
    rw [drop_at s i hlt, spec_verDigits.l0, if_pos (by omega), if_pos (by omega), bt_nat s i hlt, w1, ih (i + 1) (by omega) (by omega) k (by omega), List.all_cons, hne]
    generalize s[i] = c
    by_cases a : (c.toNat : Int) < 48
    · rw [if_pos a, show isDig c = false from by unfold isDig; rw [decide_eq_false (by omega)]; rfl]; rfl
    · by_cases b : (c.toNat : Int) > 57
      · rw [if_neg a, if_pos b, show isDig c = false from by unfold isDig; rw [decide_eq_false (p := c.toNat ≤ 57) (by omega)]; simp]; rfl
      · rw [if_neg a, if_neg b, show isDig c = true from by unfold isDig; rw [decide_eq_true (by omega), decide_eq_true (by omega)]; rfl]; simp
theorem num_tells (s : ByteArray) (hn : s.size ≤ 140737488351232) (d : Nat) : ∀ i acc : Nat, i ≤ s.size → s.size - i = d → (s.data.toList.drop i).all isDig = true → acc ≤ 18446744073709551615 → ∀ k, d < k →
    spec_verNumber.l0 k s (acc : Int) (i : Int) = some (match Lib.parseUintM 18446744073709551615 acc (s.data.toList.drop i) with | .ok u => ((u : Int), true) | _ => (0, false)) := by
  induction d with
  | zero =>
    intro i acc hi hd _ _ k hk
    obtain ⟨k, rfl⟩ : ∃ j, k = j + 1 := ⟨k - 1, by omega⟩
    rw [spec_verNumber.l0, if_neg (by omega), List.drop_eq_nil_of_le (by rw [Array.length_toList]; show s.size ≤ i; omega)]
    rfl
  | succ d ih =>
    intro i acc hi hd hall hacc k hk
    obtain ⟨k, rfl⟩ : ∃ j, k = j + 1 := ⟨k - 1, by omega⟩
    have hlt : i < s.size := by omega
    have w1 : wrap64 ((i : Int) + 1) = ((i + 1 : Nat) : Int) := by rw [wrap_in (by omega) (by omega)]; omega
    rw [drop_at s i hlt, List.all_cons, Bool.and_eq_true] at hall
    obtain ⟨hd1, hall⟩ := hall
    rw [drop_at s i hlt, spec_verNumber.l0, if_pos (by omega), if_pos (by omega), bt_nat s i hlt, w1, Lib.parseUintM]
    generalize s[i] = c at *
    simp only [isDig, Bool.and_eq_true, decide_eq_true_eq] at hd1
    rw [if_pos hd1]
    have hm : ((c.toNat : Int) - 48) % 256 = ((c.toNat - 48 : Nat) : Int) := by omega
    rw [hm]
    by_cases h1 : 1844674407370955162 ≤ acc
    · rw [if_pos h1, if_pos (by omega)]
    · rw [if_neg h1]
      by_cases h2 : 18446744073709551615 < acc * 10 + (c.toNat - 48)
      · rw [if_pos h2, if_pos (by omega)]
      · rw [if_neg h2, if_neg (by omega)]
        have e : IntKind.u64.wrap (IntKind.u64.wrap (10 * (acc : Int)) + ((c.toNat - 48 : Nat) : Int)) = ((acc * 10 + (c.toNat - 48) : Nat) : Int) := by
          have u : ∀ z : Int, 0 ≤ z → z ≤ 18446744073709551615 → IntKind.u64.wrap z = z := fun z h0 h1 => by
            show z % 18446744073709551616 = z; omega
          rw [u (10 * (acc : Int)) (by omega) (by omega), u _ (by omega) (by omega)]; omega
        rw [e]
        exact ih (i + 1) _ (by omega) (by omega) hall (by omega) k (by omega)
theorem number_f (s : ByteArray) (hn : s.size ≤ 140737488351232) : ∃ n k, spec_verNumber.f k s = some (n, (qNumB s.data.toList).isSome) ∧ ∀ u, qNumB s.data.toList = some u → n = (u : Int) := by
  have hd := digits_tells s hn s.size 0 (Nat.zero_le _) (by omega) (s.size + 1) (by omega)
  have hb : ((s.data.toList.drop 0).all isDig && (!s.data.toList.isEmpty || decide (0 < s.size))) = (s.data.toList.all isDig && !s.data.toList.isEmpty) := by
    rw [List.drop_zero]
    cases h : s.data.toList with
    | nil => have : s.data.toList.length = 0 := by rw [h]; rfl
             rw [Array.length_toList] at this; have h2 : s.data.size = s.size := rfl
             rw [decide_eq_false (by omega)]; rfl
    | cons _ _ => simp
  rw [hb] at hd
  by_cases hok : (s.data.toList.all isDig && !s.data.toList.isEmpty) = true
  · have hnum := num_tells s hn s.size 0 0 (Nat.zero_le _) (by omega) (by rw [List.drop_zero]; exact (Bool.and_eq_true _ _ ▸ hok).1) (by omega) (s.size + 1) (by omega)
    have hne : s.data.toList ≠ [] := by intro h; rw [h] at hok; simp at hok
    have hq : Lib.parseUintB 64 s.data.toList = Lib.parseUintM 18446744073709551615 0 s.data.toList := by rw [Lib.parseUintB, if_neg hne]
    rw [List.drop_zero, ← hq] at hnum
    unfold qNumB
    have open0 : spec_verNumber.f (s.size + 1) s = spec_verNumber.l0 (s.size + 1) s 0 0 := by
      rw [spec_verNumber.f, spec_verDigits.f]
      show ((spec_verDigits.l0 (s.size + 1) s ((0 : Nat) : Int)).bind _) = _
      rw [hd, hok]; rfl
    have hnum' : spec_verNumber.f (s.size + 1) s = _ := open0.trans hnum
    cases hp : Lib.parseUintB 64 s.data.toList <;> rw [hp] at hnum' <;>
      first
        | exact ⟨_, s.size + 1, hnum', fun v hv => by cases hv; rfl⟩
        | exact ⟨0, s.size + 1, hnum', fun v hv => by cases hv⟩
  · have hok' : (s.data.toList.all isDig && !s.data.toList.isEmpty) = false := by simpa using hok
    have hq : qNumB s.data.toList = none := by
      cases h : qNumB s.data.toList with
      | none => rfl
      | some u =>
        obtain ⟨_, h1, h2⟩ := qNumB_some h
        exfalso; apply hok
        rw [h2]
        cases h3 : s.data.toList with
        | nil => exact absurd h3 h1
        | cons _ _ => rfl
    exact ⟨0, s.size + 1, by
      rw [spec_verNumber.f, spec_verDigits.f]
      show ((spec_verDigits.l0 (s.size + 1) s ((0 : Nat) : Int)).bind _) = _
      rw [hd, hok', hq]; rfl, fun u hu => by rw [hq] at hu; cases hu⟩
end Go.Proofs.YtgoeiflddikihaaGreatDoor.Ver
end
section
namespace Go.Proofs.YtgoeiflddikihaaGreatDoor.Ver
set_option linter.unusedSimpArgs false
set_option linter.unusedVariables false
open Go.RowKit Go.Proofs.YtgoeiflddikihaaGreatDoor.PFnVersion Go.Proofs.YtgoeiflddikihaaGreatDoorW.PrintWords
structure RightV (k : Int) (t r : ByteArray) : Prop where
  k0 : 0 ≤ k
  k3 : k ≤ 3
  t0 : 0 < t.size
  t60 : t.size ≤ 60
  r60 : r.size ≤ 60
  rk : k = 0 → r = ⟨#[]⟩
def to30 (x : S27) : S30 := ⟨x.f0, x.f1, x.f2⟩
theorem plain_f (s : ByteArray) (hn : s.size ≤ 140737488351232) : ∃ b k0, (∀ k, k0 ≤ k → spec_VerPlain.f k s 60 = some b) ∧ (b = true → 0 < s.size ∧ s.size ≤ 60) := by
  obtain ⟨b, k0, h1, h2⟩ := plain_tells s hn s.size 0 (by omega) (by omega)
  exact ⟨b, k0, fun k hk => h1 k hk, h2⟩
theorem nil_of_toList {r : ByteArray} (h : r.toList = []) : r = ⟨#[]⟩ := by
  rw [ByteArray.toList_eq] at h
  apply ByteArray.ext
  exact Array.toList_eq_nil_iff.1 h
theorem isV_f (k : Int) (t r : ByteArray) (ht : t.size ≤ 140737488351232) (hr : r.size ≤ 140737488351232) : ∃ b k0, (∀ n, k0 ≤ n → spec_IsV.f n k t r = some b) ∧ (b = true → RightV k t r) := by
  obtain ⟨b1, k1, h1, p1⟩ := plain_f t ht
  obtain ⟨b2, k2, h2, p2⟩ := plain_f r hr
  by_cases c1 : k ≥ 0
  · by_cases c2 : k ≤ 3
    · cases b1 with
      | false => exact ⟨false, k1, fun n hn => by rw [spec_IsV.f, if_pos c1, if_pos c2, h1 n hn]; rfl, fun h => by cases h⟩
      | true =>
        by_cases c3 : r.toList = ([] : List UInt8)
        · obtain ⟨q1, q2⟩ := p1 rfl
          have hr0 := nil_of_toList c3
          exact ⟨true, k1, fun n hn => by rw [spec_IsV.f, if_pos c1, if_pos c2, h1 n hn]; rw [Option.bind_some, if_pos rfl, if_pos c3], fun _ => ⟨c1, c2, q1, q2, by rw [hr0]; decide, fun _ => hr0⟩⟩
        · by_cases c4 : k = 0
          · exact ⟨false, k1, fun n hn => by rw [spec_IsV.f, if_pos c1, if_pos c2, h1 n hn]; rw [Option.bind_some, if_pos rfl, if_neg c3, if_pos c4], fun h => by cases h⟩
          · refine ⟨b2, k1 + k2, fun n hn => by rw [spec_IsV.f, if_pos c1, if_pos c2, h1 n (by omega)]; rw [Option.bind_some, if_pos rfl, if_neg c3, if_neg c4, h2 n (by omega)]; rfl, fun h => ?_⟩
            obtain ⟨q1, q2⟩ := p1 rfl
            obtain ⟨q3, q4⟩ := p2 h
            exact ⟨c1, c2, q1, q2, q4, fun h0 => absurd h0 c4⟩
    · exact ⟨false, 0, fun n _ => by rw [spec_IsV.f, if_pos c1, if_neg c2], fun h => by cases h⟩
  · exact ⟨false, 0, fun n _ => by rw [spec_IsV.f, if_neg c1], fun h => by cases h⟩
theorem rd27 (l : List S27) (j : Nat) (h : j < l.length) : rd_T27 l (j : Int) = l[j] := by simp [rd_T27, h]
theorem rd30 (l : List S30) (j : Nat) (h : j < l.length) : rd_T30 l (j : Int) = l[j] := by simp [rd_T30, h]
theorem next64 (j : Nat) (h : j ≤ 1000000000000) : wrap64 ((j : Int) + 1) = ((j + 1 : Nat) : Int) := by rw [wrap_in (by omega) (by omega)]; omega
theorem all_loop (l : List S27) (hl : l.length ≤ 1000000000000) (hs : ∀ x ∈ l, x.f1.size ≤ 140737488351232 ∧ x.f2.size ≤ 140737488351232) (d : Nat) : ∀ j : Nat, j ≤ l.length → l.length - j = d →
    ∃ b k0, (∀ n, k0 ≤ n → laws_verAll.l0 n l (l.length : Int) (j : Int) = some b) ∧ (b = true → ∀ x ∈ l.drop j, RightV x.f0 x.f1 x.f2) := by
  induction d with
  | zero =>
    intro j hj hd
    refine ⟨true, 1, fun n hn => ?_, fun _ x hx => ?_⟩
    · obtain ⟨n, rfl⟩ : ∃ i, n = i + 1 := ⟨n - 1, by omega⟩
      rw [laws_verAll.l0, if_neg (by omega)]
    · rw [List.drop_eq_nil_of_le (by omega)] at hx; cases hx
  | succ d ih =>
    intro j hj hd
    have hlt : j < l.length := by omega
    obtain ⟨b, k0, h1, h2⟩ := ih (j + 1) (by omega) (by omega)
    obtain ⟨q1, q2⟩ := hs l[j] (List.getElem_mem hlt)
    obtain ⟨c, k1, h3, h4⟩ := isV_f l[j].f0 l[j].f1 l[j].f2 q1 q2
    have w1 := next64 j (by omega)
    cases c with
    | false =>
      refine ⟨false, k1 + 1, fun n hn => ?_, fun h => by cases h⟩
      obtain ⟨n, rfl⟩ : ∃ i, n = i + 1 := ⟨n - 1, by omega⟩
      rw [laws_verAll.l0, if_pos (by omega), if_pos (by omega), if_pos (by omega), rd27 l j hlt]
      show ((spec_IsV.f n l[j].f0 l[j].f1 l[j].f2).bind _) = _
      rw [h3 n (by omega)]; rfl
    | true =>
      refine ⟨b, k0 + k1 + 1, fun n hn => ?_, fun h x hx => ?_⟩
      · obtain ⟨n, rfl⟩ : ∃ i, n = i + 1 := ⟨n - 1, by omega⟩
        rw [laws_verAll.l0, if_pos (by omega), if_pos (by omega), if_pos (by omega), rd27 l j hlt]
        show ((spec_IsV.f n l[j].f0 l[j].f1 l[j].f2).bind _) = _
        rw [h3 n (by omega)]
        rw [Option.bind_some, if_pos rfl]
        rw [w1]
        exact h1 n (by omega)
      · rw [List.drop_eq_getElem_cons hlt] at hx
        rcases List.mem_cons.1 hx with rfl | hx
        · exact h4 rfl
        · exact h2 h x hx
theorem all_f (l : List S27) (hl : l.length ≤ 1000000000000) (hs : ∀ x ∈ l, x.f1.size ≤ 140737488351232 ∧ x.f2.size ≤ 140737488351232) :
    ∃ b k0, (∀ n, k0 ≤ n → laws_verAll.f n l = some b) ∧ (b = true → l.length ≤ 20 ∧ ∀ x ∈ l, RightV x.f0 x.f1 x.f2) := by
  by_cases h : (l.length : Int) > 20
  · exact ⟨false, 0, fun n _ => by rw [laws_verAll.f, if_pos h], fun h => by cases h⟩
  · obtain ⟨b, k0, h1, h2⟩ := all_loop l hl hs l.length 0 (Nat.zero_le _) (by omega)
    exact ⟨b, k0, fun n hn => by rw [laws_verAll.f, if_neg h]; exact h1 n hn, fun hb => ⟨by omega, by have := h2 hb; rwa [List.drop_zero] at this⟩⟩
theorem list_loop (l : List S27) (hl : l.length ≤ 1000000) (d : Nat) : ∀ (j : Nat), j ≤ l.length → l.length - j = d → ∀ n, d < n →
    laws_verList.l0 n ((l.take j).map to30) l (l.length : Int) (j : Int) = some (l.map to30, true) := by
  induction d with
  | zero =>
    intro j hj hd n hn
    obtain ⟨n, rfl⟩ : ∃ i, n = i + 1 := ⟨n - 1, by omega⟩
    rw [laws_verList.l0, if_neg (by omega), List.take_of_length_le (by omega)]
  | succ d ih =>
    intro j hj hd n hn
    obtain ⟨n, rfl⟩ : ∃ i, n = i + 1 := ⟨n - 1, by omega⟩
    have hlt : j < l.length := by omega
    rw [laws_verList.l0, if_pos (by omega), if_pos (by omega), if_pos (by omega), rd27 l j hlt]
    show (if ((l.take j).map to30).length < 3518437208883 then laws_verList.l0 n ((l.take j).map to30 ++ [to30 l[j]]) l (l.length : Int) (wrap64 ((j : Int) + 1)) else none) = _
    rw [if_pos (by rw [List.length_map, List.length_take]; omega), next64 j (by omega)]
    have e : (l.take j).map to30 ++ [to30 l[j]] = (l.take (j + 1)).map to30 := by rw [List.take_succ_eq_append_getElem hlt, List.map_append]; rfl
    rw [e]
    exact ih (j + 1) (by omega) (by omega) n (by omega)
theorem list_f (l : List S27) (hl : l.length ≤ 1000000000000) (hs : ∀ x ∈ l, x.f1.size ≤ 140737488351232 ∧ x.f2.size ≤ 140737488351232) :
    ∃ b k, laws_verList.f k l = some (if b = true then (l.map to30, true) else ([], false)) ∧ (b = true → l.length ≤ 20 ∧ ∀ x ∈ l, RightV x.f0 x.f1 x.f2) := by
  obtain ⟨b, k0, h1, h2⟩ := all_f l hl hs
  cases b with
  | false => exact ⟨false, k0, by rw [laws_verList.f, h1 k0 (Nat.le_refl _)]; rfl, h2⟩
  | true =>
    obtain ⟨h3, _⟩ := h2 rfl
    refine ⟨true, k0 + l.length + 1, ?_, h2⟩
    rw [laws_verList.f, h1 _ (by omega)]
    rw [Option.bind_some, if_pos rfl]

    exact list_loop l (by omega) l.length 0 (Nat.zero_le _) (by omega) _ (by omega)
theorem fits_loop (l : List S27) (hl : l.length ≤ 1000000000000) (d : Nat) : ∀ j : Nat, j ≤ l.length → l.length - j = d →
    ∃ b, (∀ n, d < n → laws_zzFits3.l0 n l (l.length : Int) (j : Int) = some b) ∧ (b = true → ∀ x ∈ l.drop j, x.f1.size ≤ 2147483647 ∧ x.f2.size ≤ 2147483647) := by
  induction d with
  | zero =>
    intro j hj hd
    refine ⟨true, fun n hn => ?_, fun _ x hx => ?_⟩
    · obtain ⟨n, rfl⟩ : ∃ i, n = i + 1 := ⟨n - 1, by omega⟩
      rw [laws_zzFits3.l0, if_neg (by omega)]
    · rw [List.drop_eq_nil_of_le (by omega)] at hx; cases hx
  | succ d ih =>
    intro j hj hd
    have hlt : j < l.length := by omega
    obtain ⟨b, h1, h2⟩ := ih (j + 1) (by omega) (by omega)
    have w1 := next64 j (by omega)
    by_cases c1 : (l[j].f1.size : Int) > 2147483647
    · refine ⟨false, fun n hn => ?_, fun h => by cases h⟩
      obtain ⟨n, rfl⟩ : ∃ i, n = i + 1 := ⟨n - 1, by omega⟩
      rw [laws_zzFits3.l0, if_pos (by omega), if_pos (by omega), if_pos (by omega), rd27 l j hlt, laws_zzFits1.f, if_pos c1]; rfl
    · by_cases c2 : (l[j].f2.size : Int) > 2147483647
      · refine ⟨false, fun n hn => ?_, fun h => by cases h⟩
        obtain ⟨n, rfl⟩ : ∃ i, n = i + 1 := ⟨n - 1, by omega⟩
        rw [laws_zzFits3.l0, if_pos (by omega), if_pos (by omega), if_pos (by omega), rd27 l j hlt, laws_zzFits1.f, if_neg c1, if_pos c2]; rfl
      · refine ⟨b, fun n hn => ?_, fun h x hx => ?_⟩
        · obtain ⟨n, rfl⟩ : ∃ i, n = i + 1 := ⟨n - 1, by omega⟩
          rw [laws_zzFits3.l0, if_pos (by omega), if_pos (by omega), if_pos (by omega), rd27 l j hlt, laws_zzFits1.f, if_neg c1, if_neg c2]
          rw [Option.bind_some, if_pos rfl]
          rw [w1]
          exact h1 n (by omega)
        · rw [List.drop_eq_getElem_cons hlt] at hx
          rcases List.mem_cons.1 hx with rfl | hx
          · omega
          · exact h2 h x hx
theorem fits_f (l : List S27) : ∃ b k, laws_zzFits3.f k l = some b ∧ (b = true → l.length ≤ 2147483647 ∧ ∀ x ∈ l, x.f1.size ≤ 2147483647 ∧ x.f2.size ≤ 2147483647) := by
  by_cases h : (l.length : Int) > 2147483647
  · exact ⟨false, 0, by rw [laws_zzFits3.f, if_pos h], fun h => by cases h⟩
  · obtain ⟨b, h1, h2⟩ := fits_loop l (by omega) l.length 0 (Nat.zero_le _) (by omega)
    exact ⟨b, l.length + 1, by rw [laws_zzFits3.f, if_neg h]; exact h1 _ (by omega), fun hb => ⟨by omega, by have := h2 hb; rwa [List.drop_zero] at this⟩⟩
theorem same_loop (l : List S27) (hl : l.length ≤ 1000000) (d : Nat) : ∀ (j : Nat), j ≤ l.length → l.length - j = d → ∀ n, d < n →
    laws_verSorted.l0 n l (l.map to30) (l.length : Int) (j : Int) = some true := by
  induction d with
  | zero =>
    intro j hj hd n hn
    obtain ⟨n, rfl⟩ : ∃ i, n = i + 1 := ⟨n - 1, by omega⟩
    rw [laws_verSorted.l0, if_neg (by omega)]
  | succ d ih =>
    intro j hj hd n hn
    obtain ⟨n, rfl⟩ : ∃ i, n = i + 1 := ⟨n - 1, by omega⟩
    have hlt : j < l.length := by omega
    have hm : (j : Int) < ((l.map to30).length : Int) := by rw [List.length_map]; omega
    rw [laws_verSorted.l0, if_pos (by omega), if_pos (by omega), if_pos (by omega), rd27 l j hlt, rd30 _ j (by rw [List.length_map]; exact hlt), List.getElem_map]
    show (if (j : Int) < ((l.map to30).length : Int) then (if (!(l[j].f0 == l[j].f0) || (!(l[j].f1.toList == l[j].f1.toList) || !(l[j].f2.toList == l[j].f2.toList))) = true then some false else laws_verSorted.l0 n l (l.map to30) (l.length : Int) (wrap64 ((j : Int) + 1))) else none) = _
    rw [if_pos hm, if_neg (by simp), next64 j (by omega)]
    exact ih (j + 1) (by omega) (by omega) n (by omega)
theorem same_f (l : List S27) (hl : l.length ≤ 1000000) : laws_verSorted.f (l.length + 1) l (l.map to30) = some true := by
  rw [laws_verSorted.f, if_pos (by rw [List.length_map])]
  exact same_loop l hl l.length 0 (Nat.zero_le _) (by omega) _ (by omega)
end Go.Proofs.YtgoeiflddikihaaGreatDoor.Ver
end
