/- Plain laws of what a digest's text is: one colon, digits in pairs behind it. -/
import Derived.Test.YtehcnjjkklogbaaDoorDigE
import Derived.Test.YtehcnjjkklogbaaDoorDigQ
import Derived.Lib.AtoiAllCases
namespace Go.Proofs.YtehcnjjkklogbaaDoor.Dig
open Go.RowKit Go.Proofs.YtehcnjjkklogbaaDoor.PFnDigest Go.Proofs.YtehcnjjkklogbaaDoorW.PrintWords

theorem parts_one {r b : List UInt8} (h : parts r = [b]) : r = b ∧ 58 ∉ b := by
  by_cases hc : colon r < r.length
  · rw [parts_colon r hc] at h
    injection h with _ h2
    exact absurd h2 (parts_ne _)
  · have h1 := colon_le r
    have h2 := colon_not r
    rw [show colon r = r.length by omega, List.take_length] at h2
    rw [parts_end r hc] at h
    injection h with h3
    exact ⟨h3, h3 ▸ h2⟩
theorem parts_two {l a b : List UInt8} (h : parts l = [a, b]) : l = a ++ 58 :: b ∧ 58 ∉ a ∧ 58 ∉ b := by
  have hc : colon l < l.length := by
    rcases Nat.lt_or_ge (colon l) l.length with h1 | h1
    · exact h1
    · rw [parts_end l (by omega)] at h; cases h
  have e := parts_colon l hc
  rw [h] at e
  injection e with e1 e2
  have h2 := parts_one e2.symm
  refine ⟨?_, by rw [e1]; exact colon_not l, h2.2⟩
  rw [e1, ← h2.1]
  rw [← colon_at l hc, List.drop_eq_getElem_cons hc |>.symm, List.take_append_drop]

/-- How many colons there are, and where the last one is. -/
def scan : List UInt8 → Nat → Nat → Nat → Nat × Nat
  | [], _, c, a => (c, a)
  | x :: r, i, c, a => if x = 58 then scan r (i + 1) (c + 1) i else scan r (i + 1) c a
theorem scan_none : ∀ (l : List UInt8), 58 ∉ l → ∀ i c a, scan l i c a = (c, a)
  | [], _, _, _, _ => rfl
  | x :: r, h, i, c, a => by
    simp only [List.mem_cons, not_or] at h
    rw [scan, if_neg (fun e => h.1 e.symm)]
    exact scan_none r h.2 _ _ _
theorem scan_app : ∀ (p q : List UInt8), 58 ∉ p → ∀ i c a, scan (p ++ q) i c a = scan q (i + p.length) c a
  | [], _, _, _, _, _ => rfl
  | x :: r, q, h, i, c, a => by
    simp only [List.mem_cons, not_or] at h
    rw [List.cons_append, scan, if_neg (fun e => h.1 e.symm), scan_app r q h.2]
    congr 1
    simp; omega
theorem scan_two {a b : List UInt8} (ha : 58 ∉ a) (hb : 58 ∉ b) : scan (a ++ 58 :: b) 0 0 0 = (1, a.length) := by
  rw [scan_app a _ ha, scan, if_pos rfl, scan_none b hb]
  simp

theorem unhex_length : ∀ (l : List UInt8) (bs : List Int), unhex l = some bs → l.length = 2 * bs.length
  | [], bs, h => by simp [unhex] at h; simp [h]
  | [_], bs, h => by simp [unhex] at h
  | a :: b :: r, bs, h => by
    rw [unhex] at h
    split at h
    · obtain ⟨q, hq, rfl⟩ := Option.map_eq_some_iff.1 h
      have := unhex_length r q hq
      simp; omega
    · cases h
theorem unhex_at : ∀ (l : List UInt8) (bs : List Int), unhex l = some bs → ∀ i, i < bs.length →
    ∃ c d, l[2 * i]? = some c ∧ l[2 * i + 1]? = some d ∧ bs[i]? = some ((16 * hexD c.toNat + hexD d.toNat : Nat) : Int) ∧ hexD c.toNat ≤ 15 ∧ hexD d.toNat ≤ 15
  | [], bs, h, i, hi => by simp [unhex] at h; subst h; simp at hi
  | [_], bs, h, i, hi => by simp [unhex] at h
  | a :: b :: r, bs, h, i, hi => by
    rw [unhex] at h
    split at h
    · rename_i hab
      obtain ⟨q, hq, rfl⟩ := Option.map_eq_some_iff.1 h
      cases i with
      | zero => exact ⟨a, b, by simp, by simp, by simp, hab.1, hab.2⟩
      | succ i =>
        obtain ⟨c, d, h1, h2, h3, h4, h5⟩ := unhex_at r q hq i (by simp at hi; omega)
        exact ⟨c, d, by rw [show 2 * (i + 1) = 2 * i + 1 + 1 by omega]; simpa using h1, by rw [show 2 * (i + 1) + 1 = 2 * i + 1 + 1 + 1 by omega]; simpa using h2, by simpa using h3, h4, h5⟩
    · cases h
theorem unhex_rng {l : List UInt8} {bs : List Int} (h : unhex l = some bs) : ∀ x ∈ bs, 0 ≤ x ∧ x ≤ 255 := by
  intro x hx
  obtain ⟨i, hi, rfl⟩ := List.mem_iff_getElem.1 hx
  obtain ⟨c, d, _, _, h3, h4, h5⟩ := unhex_at l bs h i hi
  rw [List.getElem?_eq_getElem hi] at h3
  injection h3 with h3
  rw [h3]
  omega

/-- What a text that is read as a digest is like. -/
structure Seen (l : List UInt8) (n : Int) (bs : List Int) (p : Nat) : Prop where
  col : scan l 0 0 0 = (1, p)
  len : l.length = p + 1 + 2 * bs.length
  lo : -9223372036854775808 ≤ n
  hi : n ≤ 9223372036854775807
  rng : ∀ x ∈ bs, 0 ≤ x ∧ x ≤ 255
  pair : ∀ i, i < bs.length → ∃ c d, l[p + 1 + 2 * i]? = some c ∧ l[p + 1 + 2 * i + 1]? = some d ∧ bs[i]? = some ((16 * hexD c.toNat + hexD d.toNat : Nat) : Int) ∧ hexD c.toNat ≤ 15 ∧ hexD d.toNat ≤ 15
theorem seen {l : List UInt8} {n : Int} {bs : List Int} (h : digest l = some (n, bs)) : ∃ p, Seen l n bs p := by
  unfold digest at h
  split at h
  · rename_i a b hab
    unfold digest2 at h
    split at h
    · rename_i q v hq hv
      simp at h
      obtain ⟨rfl, rfl⟩ := h
      obtain ⟨rfl, ha, hb⟩ := parts_two hab
      have hl := unhex_length _ _ hq
      have hn := Lib.atoiAll_bounds hv
      refine ⟨a.length, scan_two ha hb, by simp; omega, hn.1, hn.2, unhex_rng hq, fun i hi => ?_⟩
      obtain ⟨c, d, h1, h2, h3, h4, h5⟩ := unhex_at _ _ hq i hi
      refine ⟨c, d, ?_, ?_, h3, h4, h5⟩
      · rw [List.getElem?_append_right (by omega), show a.length + 1 + 2 * i - a.length = 2 * i + 1 by omega]; simpa using h1
      · rw [List.getElem?_append_right (by omega), show a.length + 1 + 2 * i + 1 - a.length = 2 * i + 1 + 1 by omega]; simpa using h2
    · cases h
  · cases h

theorem hex_class : ∀ c : Fin 256, hexD c.val ≤ 15 →
    (UInt8.ofNat c.val = hx false (hexD c.val) ∧ UInt8.ofNat c.val = hx true (hexD c.val)) ∨ (UInt8.ofNat c.val = hx false (hexD c.val) ∧ 97 ≤ c.val ∧ c.val ≤ 102) ∨ (UInt8.ofNat c.val = hx true (hexD c.val) ∧ 65 ≤ c.val ∧ c.val ≤ 70) := by decide +kernel
theorem hex_class' (c : UInt8) (h : hexD c.toNat ≤ 15) :
    (c = hx false (hexD c.toNat) ∧ c = hx true (hexD c.toNat)) ∨ (c = hx false (hexD c.toNat) ∧ 97 ≤ c.toNat ∧ c.toNat ≤ 102) ∨ (c = hx true (hexD c.toNat) ∧ 65 ≤ c.toNat ∧ c.toNat ≤ 70) := by
  have := hex_class ⟨c.toNat, c.toNat_lt⟩ h
  simpa using this
theorem hexL_one (cap : Bool) (c d : Nat) (hd : d ≤ 15) : hexL cap [((16 * c + d : Nat) : Int)] = [hx cap c, hx cap d] := by
  rw [hexL_cons]
  rw [show ((16 * c + d : Nat) : Int).toNat / 16 = c by omega, show ((16 * c + d : Nat) : Int).toNat % 16 = d by omega]
  rfl
def Mix (c d : UInt8) : Prop := (97 ≤ c.toNat ∧ c.toNat ≤ 102 ∧ 65 ≤ d.toNat ∧ d.toNat ≤ 70) ∨ (65 ≤ c.toNat ∧ c.toNat ≤ 70 ∧ 97 ≤ d.toNat ∧ d.toNat ≤ 102)
theorem pair_law (c d : UInt8) (hc : hexD c.toNat ≤ 15) (hd : hexD d.toNat ≤ 15) :
    [c, d] = hexL false [((16 * hexD c.toNat + hexD d.toNat : Nat) : Int)] ∨ [c, d] = hexL true [((16 * hexD c.toNat + hexD d.toNat : Nat) : Int)] ∨ Mix c d := by
  rw [hexL_one _ _ _ hd, hexL_one _ _ _ hd]
  rcases hex_class' c hc with ⟨a, b⟩ | ⟨a, b⟩ | ⟨a, b⟩ <;> rcases hex_class' d hd with ⟨e, f⟩ | ⟨e, f⟩ | ⟨e, f⟩
  · exact .inl (by rw [← a, ← e])
  · exact .inl (by rw [← a, ← e])
  · exact .inr (.inl (by rw [← b, ← e]))
  · exact .inl (by rw [← a, ← e])
  · exact .inl (by rw [← a, ← e])
  · exact .inr (.inr (.inl ⟨b.1, b.2, f.1, f.2⟩))
  · exact .inr (.inl (by rw [← a, ← f]))
  · exact .inr (.inr (.inr ⟨b.1, b.2, f.1, f.2⟩))
  · exact .inr (.inl (by rw [← a, ← e]))
theorem mixed_told (c d : UInt8) (h : Mix c d) : laws_isMixed.f ⟨#[c, d]⟩ = some true := by
  have b0 : bt ⟨#[c, d]⟩ 0 = ((c.toNat : Nat) : Int) := rfl
  have b1 : bt ⟨#[c, d]⟩ 1 = ((d.toNat : Nat) : Int) := rfl
  have hs : ((⟨#[c, d]⟩ : ByteArray).size : Int) = 2 := rfl
  unfold laws_isMixed.f
  rw [b0, b1, hs]
  rcases h with ⟨h1, h2, h3, h4⟩ | ⟨h1, h2, h3, h4⟩
  · rw [if_pos (by omega), if_pos (by omega), if_pos (by omega), if_pos (by omega), if_pos (by omega), if_pos (by omega)]
  · rw [if_pos (by omega), if_pos (by omega), if_neg (by omega), if_pos (by omega), if_pos (by omega), if_pos (by omega), decide_eq_true (by omega)]
theorem extract_two {s : ByteArray} {i : Nat} {c d : UInt8} (h1 : s.data.toList[i]? = some c) (h2 : s.data.toList[i + 1]? = some d) : s.extract i (i + 2) = ⟨#[c, d]⟩ := by
  apply ByteArray.ext
  rw [ByteArray.data_extract]
  apply Array.ext'
  rw [Array.toList_extract]
  simp only [List.extract_eq_take_drop]
  have hl1 : i < s.data.toList.length := (List.getElem?_eq_some_iff.1 h1).1
  have hl2 : i + 1 < s.data.toList.length := (List.getElem?_eq_some_iff.1 h2).1
  rw [List.getElem?_eq_getElem hl1] at h1
  rw [List.getElem?_eq_getElem hl2] at h2
  injection h1 with h1
  injection h2 with h2
  rw [show i + 2 - i = 2 by omega, List.drop_eq_getElem_cons hl1, List.drop_eq_getElem_cons hl2, h1, h2]
  rfl
theorem take_one {bs : List Int} {i : Nat} {x : Int} (h : bs[i]? = some x) : (bs.take (i + 1)).drop i = [x] := by
  have hl : i < bs.length := (List.getElem?_eq_some_iff.1 h).1
  rw [List.getElem?_eq_getElem hl] at h
  injection h with h
  rw [List.drop_take, List.drop_eq_getElem_cons hl, h, show i + 1 - i = 1 by omega]
  rfl

end Go.Proofs.YtehcnjjkklogbaaDoor.Dig
