/- Plain laws of digests: hexadecimal and decimal digits are read back. No program's memory. -/
import Derived.Test.YtehcnjjkklogbaaDoorDigC
import Derived.Lib.ItoaLen
import Derived.Lib.AtoiTie
namespace Go.Proofs.YtehcnjjkklogbaaDoor.Dig
open Go.RowKit Go.Proofs.YtehcnjjkklogbaaDoor.PFnDigest Go.Proofs.YtehcnjjkklogbaaDoorW.PrintWords

/-! decimal -/
theorem parse_app : ∀ (l m : List UInt8) (acc u : Nat), Lib.parseUint10 acc l = .ok u → Lib.parseUint10 acc (l ++ m) = Lib.parseUint10 u m
  | [], m, acc, u, h => by
    simp only [Lib.parseUint10] at h
    injection h with h
    rw [h]; rfl
  | c :: r, m, acc, u, h => by
    simp only [List.cons_append, Lib.parseUint10] at h ⊢
    split at h
    · rename_i h1
      rw [if_pos h1]
      split at h
      · cases h
      · rename_i h2
        rw [if_neg h2]
        split at h
        · cases h
        · rename_i h3
          rw [if_neg h3]
          exact parse_app r m _ u h
    · cases h
theorem digit_nat (d : Nat) (h : d < 10) : (UInt8.ofNat (48 + d)).toNat = 48 + d := by simp; omega
theorem parse_dec (u : Nat) : u < 18446744073709551616 → Lib.parseUint10 0 (Lib.decDigits u) = .ok u := by
  induction u using Nat.strongRecOn with
  | _ u ih =>
    intro hu
    by_cases h : u < 10
    · rw [Lib.decDigits, dif_pos h]
      simp only [Lib.parseUint10]
      rw [digit_nat u h, if_pos (by omega), if_neg (by omega), if_neg (by omega)]
      simp
    · rw [Lib.decDigits, dif_neg h, parse_app _ _ _ _ (ih (u / 10) (by omega) (by omega))]
      simp only [Lib.parseUint10]
      rw [digit_nat (u % 10) (by omega), if_pos (by omega), if_neg (by omega), if_neg (by omega)]
      congr 1
      omega
theorem dec_digits (u : Nat) : ∀ c ∈ Lib.decDigits u, 48 ≤ c.toNat ∧ c.toNat ≤ 57 := by
  induction u using Nat.strongRecOn with
  | _ u ih =>
    intro c hc
    by_cases h : u < 10
    · rw [Lib.decDigits, dif_pos h] at hc
      rw [List.mem_singleton] at hc
      subst hc
      rw [digit_nat u h]; omega
    · rw [Lib.decDigits, dif_neg h] at hc
      rcases List.mem_append.1 hc with hc | hc
      · exact ih (u / 10) (by omega) c hc
      · rw [List.mem_singleton] at hc
        subst hc
        rw [digit_nat (u % 10) (by omega)]; omega
theorem dec_ne (u : Nat) : Lib.decDigits u ≠ [] := by
  rw [Lib.decDigits]; split <;> simp
theorem atoi_itoa (n : Int) (h0 : -9223372036854775808 ≤ n) (h1 : n ≤ 9223372036854775807) : Lib.atoiAll (Lib.itoa n) = .ok n := by
  unfold Lib.itoa
  split
  · rename_i hn
    have hp : Lib.parseMag (Lib.decDigits n.natAbs) = .ok n.natAbs := by
      unfold Lib.parseMag
      rw [if_neg (dec_ne _), parse_dec _ (by omega)]
    simp only [Lib.atoiAll]
    have h45 : (45 : UInt8).toNat = 45 := rfl
    rw [if_pos (by decide), hp]
    simp only
    rw [if_neg (by omega), if_neg (by omega), if_pos (by decide)]
    congr 1
    omega
  · rename_i hn
    have hp : Lib.parseMag (Lib.decDigits n.toNat) = .ok n.toNat := by
      unfold Lib.parseMag
      rw [if_neg (dec_ne _), parse_dec _ (by omega)]
    have hd := dec_digits n.toNat
    match h : Lib.decDigits n.toNat, dec_ne n.toNat with
    | c :: r, _ =>
      rw [h] at hp hd
      have := hd c (by simp)
      simp only [Lib.atoiAll]
      rw [if_neg (by omega), hp]
      simp only
      rw [if_neg (by omega), if_neg (by omega), if_neg (by omega)]
      congr 1
      omega
theorem itoa_colon (n : Int) : (58 : UInt8) ∉ Lib.itoa n := by
  intro h
  unfold Lib.itoa at h
  split at h
  · rcases List.mem_cons.1 h with h | h
    · exact absurd h (by decide)
    · have := dec_digits _ _ h; revert this; decide
  · have := dec_digits _ _ h; revert this; decide

theorem one_byte (x : Int) (h0 : 0 ≤ x) (h1 : x < 10) : strOfNums [wrap64 (48 + x) % 256] = ⟨#[UInt8.ofNat (48 + x.toNat)]⟩ := by
  rw [wrap_in (by omega) (by omega), show (48 + x) % 256 = 48 + x by omega]
  unfold strOfNums
  rw [show 48 + x.toNat = (48 + x).toNat by omega]
  rfl
theorem append_lists (a b : List UInt8) : (⟨a.toArray⟩ : ByteArray) ++ ⟨b.toArray⟩ = ⟨(a ++ b).toArray⟩ := by
  apply ByteArray.ext
  rw [ByteArray.data_append]
  simp
theorem dep_dec (k : Nat) : ∀ u : Nat, u < 10 ^ k → u < 9223372036854775808 → spec_DepDecimal.f (k + 1) (u : Int) = some ⟨(Lib.decDigits u).toArray⟩ := by
  induction k with
  | zero =>
    intro u hu _
    obtain rfl : u = 0 := by simp at hu; exact hu
    simp only [spec_DepDecimal.f]
    rw [if_neg (by omega), if_pos (by omega), one_byte _ (by omega) (by omega), Lib.decDigits, dif_pos (by omega)]
    rfl
  | succ k ih =>
    intro u hu hm
    by_cases h : u < 10
    · simp only [spec_DepDecimal.f]
      rw [if_neg (by omega), if_pos (by omega), one_byte _ (by omega) (by omega), Lib.decDigits, dif_pos h]
      rfl
    · have e1 : Int.tdiv (u : Int) 10 = ((u / 10 : Nat) : Int) := by rw [Int.tdiv_eq_ediv_of_nonneg (by omega)]; omega
      have e2 : Int.tmod (u : Int) 10 = ((u % 10 : Nat) : Int) := by rw [Int.tmod_eq_emod_of_nonneg (by omega)]; omega
      rw [spec_DepDecimal.f]
      rw [if_neg (by omega), if_neg (by omega), e1, e2, wrap_in (by omega) (by omega), ih (u / 10) (by rw [Nat.pow_succ] at hu; omega) (by omega)]
      simp only [Option.bind_some]
      rw [one_byte _ (by omega) (by omega), if_pos, append_lists]
      · rw [Lib.decDigits.eq_1 u, dif_neg h, Int.toNat_natCast]
      · have hl : (Lib.decDigits (u / 10)).length ≤ 21 := by
          have := Lib.itoa_length_le ((u / 10 : Nat) : Int) (by omega) (by omega)
          unfold Lib.itoa at this
          rw [if_neg (by omega), Int.toNat_natCast] at this
          exact this
        rw [text_size]
        have : (⟨#[UInt8.ofNat (48 + ((u % 10 : Nat) : Int).toNat)]⟩ : ByteArray).size = 1 := rfl
        omega
theorem dep_itoa (n : Int) (h0 : -1000000000 ≤ n) (h1 : n ≤ 1000000000) : spec_DepDecimal.f 12 n = some ⟨(Lib.itoa n).toArray⟩ := by
  by_cases hn : n < 0
  · have e : wrap64 (-n) = ((n.natAbs : Nat) : Int) := by rw [wrap_in (by omega) (by omega)]; omega
    have hl : (Lib.decDigits n.natAbs).length ≤ 21 := by
      have := Lib.itoa_length_le ((n.natAbs : Nat) : Int) (by omega) (by omega)
      unfold Lib.itoa at this
      rw [if_neg (by omega)] at this
      simpa using this
    rw [spec_DepDecimal.f, if_pos hn, e, dep_dec 10 n.natAbs (by omega) (by omega)]
    simp only [Option.bind_some]
    rw [if_pos (by rw [text_size]; omega), show (⟨#[45]⟩ : ByteArray) = ⟨([45] : List UInt8).toArray⟩ from rfl, append_lists]
    unfold Lib.itoa
    rw [if_pos hn]
    rfl
  · have := dep_dec 11 n.toNat (by omega) (by omega)
    rw [show ((n.toNat : Nat) : Int) = n by omega] at this
    rw [this]
    unfold Lib.itoa
    rw [if_neg hn]

/-! hexadecimal -/
def hx (cap : Bool) (d : Nat) : UInt8 := if d < 10 then UInt8.ofNat (48 + d) else if cap then UInt8.ofNat (55 + d) else UInt8.ofNat (87 + d)
def hexL (cap : Bool) (l : List Int) : List UInt8 := l.flatMap fun x => [hx cap (x.toNat / 16), hx cap (x.toNat % 16)]
theorem hx_all : ∀ (cap : Bool) (d : Fin 16), hexD (hx cap d.val).toNat = d.val ∧ hx cap d.val ≠ 58 := by decide +kernel
theorem hexL_cons (cap : Bool) (x : Int) (l : List Int) : hexL cap (x :: l) = hx cap (x.toNat / 16) :: hx cap (x.toNat % 16) :: hexL cap l := by simp [hexL]
theorem hexL_snoc (cap : Bool) (x : Int) (l : List Int) : hexL cap (l ++ [x]) = hexL cap l ++ [hx cap (x.toNat / 16), hx cap (x.toNat % 16)] := by simp [hexL]
theorem hexL_length (cap : Bool) (l : List Int) : (hexL cap l).length = 2 * l.length := by
  induction l with
  | nil => rfl
  | cons x l ih => rw [hexL_cons]; simp [ih]; omega
theorem unhex_hexL (cap : Bool) (l : List Int) (h : ∀ x ∈ l, 0 ≤ x ∧ x ≤ 255) : unhex (hexL cap l) = some l := by
  induction l with
  | nil => rfl
  | cons x l ih =>
    have hx' := h x (by simp)
    have a := hx_all cap ⟨x.toNat / 16, by omega⟩
    have b := hx_all cap ⟨x.toNat % 16, by omega⟩
    simp only at a b
    rw [hexL_cons, unhex_two _ _ _ (by omega) (by omega), ih (fun y hy => h y (by simp [hy])), a.1, b.1]
    simp
    omega
theorem hexL_colon (cap : Bool) (l : List Int) (h : ∀ x ∈ l, 0 ≤ x ∧ x ≤ 255) : (58 : UInt8) ∉ hexL cap l := by
  induction l with
  | nil => simp [hexL]
  | cons x l ih =>
    have hx' := h x (by simp)
    have a := hx_all cap ⟨x.toNat / 16, by omega⟩
    have b := hx_all cap ⟨x.toNat % 16, by omega⟩
    rw [hexL_cons]
    simp only [List.mem_cons, not_or]
    exact ⟨fun e => a.2 e.symm, fun e => b.2 e.symm, ih (fun y hy => h y (by simp [hy]))⟩
/-- A digest as it is written. -/
def wrote (cap : Bool) (n : Int) (l : List Int) : List UInt8 := Lib.itoa n ++ 58 :: hexL cap l
theorem digest_wrote (cap : Bool) (n : Int) (l : List Int) (h0 : -9223372036854775808 ≤ n) (h1 : n ≤ 9223372036854775807) (h : ∀ x ∈ l, 0 ≤ x ∧ x ≤ 255) : digest (wrote cap n l) = some (n, l) := by
  refine digest_good (a := Lib.itoa n) (b := hexL cap l) ?_ (unhex_hexL cap l h) (atoi_itoa n h0 h1)
  unfold wrote
  rw [parts_at _ _ (itoa_colon n), parts_none _ (hexL_colon cap l h)]

def small16 : ByteArray := ⟨#[48, 49, 50, 51, 52, 53, 54, 55, 56, 57, 97, 98, 99, 100, 101, 102]⟩
def big16 : ByteArray := ⟨#[48, 49, 50, 51, 52, 53, 54, 55, 56, 57, 65, 66, 67, 68, 69, 70]⟩
theorem pair_all : ∀ x : Fin 256, Go.bits .and .u8 ((x.val : Nat) : Int) 15 = ((x.val % 16 : Nat) : Int) ∧
    bt small16 ((x.val : Nat) / 16 : Int) = ((hx false (x.val / 16)).toNat : Int) ∧ bt small16 ((x.val % 16 : Nat) : Int) = ((hx false (x.val % 16)).toNat : Int) ∧
    bt big16 ((x.val : Nat) / 16 : Int) = ((hx true (x.val / 16)).toNat : Int) ∧ bt big16 ((x.val % 16 : Nat) : Int) = ((hx true (x.val % 16)).toNat : Int) := by decide +kernel
/-- The numbers of bytes. -/
def numsOf (l : List UInt8) : List Int := l.map fun c => ((c.toNat : Nat) : Int)
theorem str_numsOf (l : List UInt8) : strOfNums (numsOf l) = ⟨l.toArray⟩ := by
  unfold strOfNums numsOf
  congr 1
  rw [List.map_map]
  congr 1
  conv => rhs; rw [← List.map_id l]
  congr 1
  funext c
  simp
theorem rd_nat (l : List Int) (i : Nat) (h : i < l.length) : rd l (i : Int) = l[i] := by
  unfold rd
  simp [List.getD_eq_getElem?_getD, h]

theorem hex_tells (l : List Int) (hl : l.length ≤ 2147483647) (h : ∀ x ∈ l, 0 ≤ x ∧ x ≤ 255) (d : Nat) : ∀ (k i : Nat), i ≤ l.length → l.length - i = d → d < k →
    verify_zzHex.l0 k (numsOf (hexL false (l.take i))) l (l.length : Int) (i : Int) = some ⟨(hexL false l).toArray⟩ := by
  induction d with
  | zero =>
    intro k i hi hd hk
    obtain ⟨k, rfl⟩ : ∃ m, k = m + 1 := ⟨k - 1, by omega⟩
    simp only [verify_zzHex.l0]
    rw [if_neg (by omega), str_numsOf, List.take_of_length_le (by omega)]
  | succ d ih =>
    intro k i hi hd hk
    obtain ⟨k, rfl⟩ : ∃ m, k = m + 1 := ⟨k - 1, by omega⟩
    have hlt : i < l.length := by omega
    have hx' := h l[i] (List.getElem_mem hlt)
    obtain ⟨e1, e2, e3, _, _⟩ := pair_all ⟨l[i].toNat, by omega⟩
    simp only at e1 e2 e3
    rw [show ((l[i].toNat : Nat) : Int) = l[i] by omega] at e1 e2
    have hlen := hexL_length false (l.take i)
    rw [List.length_take, Nat.min_eq_left hi] at hlen
    simp only [verify_zzHex.l0]
    rw [if_pos (by omega), if_pos (by omega), if_pos (by omega), rd_nat l i hlt, if_pos (by omega), if_pos (by omega), e1, if_pos (by omega), if_pos (by omega)]
    simp only [Option.bind_some]
    rw [if_pos (by simp [numsOf, hlen]; omega), wrap_in (by omega) (by omega)]
    have hn := ih k (i + 1) (by omega) (by omega) (by omega)
    rw [List.take_succ_eq_append_getElem hlt, hexL_snoc] at hn
    have e : numsOf (hexL false (l.take i)) ++ [bt small16 (l[i] / 16), bt small16 ((l[i].toNat % 16 : Nat) : Int)] = numsOf (hexL false (l.take i) ++ [hx false (l[i].toNat / 16), hx false (l[i].toNat % 16)]) := by
      rw [e2, e3]; simp [numsOf]
    rw [← e] at hn
    exact hn

theorem dep_tells (cap : Bool) (l : List Int) (hl : l.length ≤ 2147483647) (h : ∀ x ∈ l, 0 ≤ x ∧ x ≤ 255) (d : Nat) : ∀ (k i : Nat), i ≤ l.length → l.length - i = d → d < k →
    spec_DepHex.l0 k (if cap then big16 else small16) (numsOf (hexL cap (l.take i))) l (l.length : Int) (i : Int) = some ⟨(hexL cap l).toArray⟩ := by
  have hs : ((if cap then big16 else small16).size : Int) = 16 := by cases cap <;> rfl
  induction d with
  | zero =>
    intro k i hi hd hk
    obtain ⟨k, rfl⟩ : ∃ m, k = m + 1 := ⟨k - 1, by omega⟩
    simp only [spec_DepHex.l0]
    rw [if_neg (by omega), str_numsOf, List.take_of_length_le (by omega)]
  | succ d ih =>
    intro k i hi hd hk
    obtain ⟨k, rfl⟩ : ∃ m, k = m + 1 := ⟨k - 1, by omega⟩
    have hlt : i < l.length := by omega
    have hx' := h l[i] (List.getElem_mem hlt)
    obtain ⟨e1, e2, e3, e4, e5⟩ := pair_all ⟨l[i].toNat, by omega⟩
    simp only at e1 e2 e3 e4 e5
    rw [show ((l[i].toNat : Nat) : Int) = l[i] by omega] at e1 e2 e4
    have hlen := hexL_length cap (l.take i)
    rw [List.length_take, Nat.min_eq_left hi] at hlen
    have e : numsOf (hexL cap (l.take i)) ++ [bt (if cap then big16 else small16) (l[i] / 16), bt (if cap then big16 else small16) ((l[i].toNat % 16 : Nat) : Int)] = numsOf (hexL cap (l.take i) ++ [hx cap (l[i].toNat / 16), hx cap (l[i].toNat % 16)]) := by
      cases cap
      · rw [if_neg (by decide), e2, e3]; simp [numsOf]
      · rw [if_pos rfl, e4, e5]; simp [numsOf]
    simp only [spec_DepHex.l0]
    rw [if_pos (by omega), if_pos (by omega), if_pos (by omega), rd_nat l i hlt, if_pos (by omega), if_pos (by omega), e1, if_pos (by omega), if_pos (by omega)]
    simp only [Option.bind_some]
    rw [if_pos (by simp [numsOf, hlen]; omega), wrap_in (by omega) (by omega), e]
    have hn := ih k (i + 1) (by omega) (by omega) (by omega)
    rw [List.take_succ_eq_append_getElem hlt, hexL_snoc] at hn
    exact hn

theorem zzHex_f (l : List Int) (hl : l.length ≤ 2147483647) (h : ∀ x ∈ l, 0 ≤ x ∧ x ≤ 255) : verify_zzHex.f (l.length + 1) l = some ⟨(hexL false l).toArray⟩ :=
  hex_tells l hl h l.length (l.length + 1) 0 (by omega) (by omega) (by omega)
theorem depHex_f (cap : Bool) (l : List Int) (hl : l.length ≤ 2147483647) (h : ∀ x ∈ l, 0 ≤ x ∧ x ≤ 255) : spec_DepHex.f (l.length + 2) l cap = some ⟨(hexL cap l).toArray⟩ := by
  have := dep_tells cap l hl h l.length (l.length + 1) 0 (by omega) (by omega) (by omega)
  unfold spec_DepHex.f
  cases cap
  · rw [if_neg (by decide)]; simp only [spec_DepHex.j0]; exact this
  · rw [if_pos rfl]; simp only [spec_DepHex.j0]; exact this

end Go.Proofs.YtehcnjjkklogbaaDoor.Dig
