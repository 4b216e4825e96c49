/- What ParsePruneOptions, PruneOptions.String, the reference's DepPruneOf and DepPrunes, and the law FnPrune itself come to: both readers fold the same step over the bytes (a rune of more bytes is no letter). No condition. -/
import Derived.Test.YtehcnjjkklogbaaPruneA
import Derived.WalkKit
import Derived.Deep.LoopGhost
import Derived.Deep.QuietTactic
import Derived.BigQuiet
import Derived.Lib.Hide
namespace Go.Proofs.Ytehcnjjkklogbaa.FnPruneOwn
open Go.RowKit Go.Proofs.Ytehcnjjkklogbaa.PFnPrune Go.Proofs.YtehcnjjkklogbaaW.PrintWords

/-- What one byte of a text adds to the options. -/
def step (n : Nat) (c : Nat) : Option Nat :=
  if c = 84 then some (n ||| 8) else if c = 85 then some (n ||| 2) else if c = 78 then some (n ||| 4) else if c = 86 then some (n ||| 1) else none
/-- What the bytes of a text say of options. -/
def prune (l : List UInt8) : Option Nat := l.foldl (fun acc c => acc.bind fun n => step n c.toNat) (some 0)

theorem prune_snoc (l : List UInt8) (c : UInt8) : prune (l ++ [c]) = (prune l).bind fun n => step n c.toNat := by
  unfold prune; rw [List.foldl_append]; rfl
theorem prune_none (l m : List UInt8) (h : prune l = none) : prune (l ++ m) = none := by
  unfold prune at *
  rw [List.foldl_append, h]
  induction m with
  | nil => rfl
  | cons c m ih => simpa [List.foldl_cons] using ih

theorem take_snoc (s : ByteArray) (k : Nat) (h : k < s.size) : s.data.toList.take (k + 1) = s.data.toList.take k ++ [s[k]] := by
  rw [List.take_succ_eq_append_getElem (by simpa using h)]; rfl

theorem prune_at (s : ByteArray) (pos n : Nat) (h : pos < s.size) (hp : prune (s.data.toList.take pos) = some n) : prune (s.data.toList.take (pos + 1)) = step n (s[pos]).toNat := by
  rw [take_snoc s pos h, prune_snoc, hp]; rfl

theorem prune_stop (s : ByteArray) (pos : Nat) (h : prune (s.data.toList.take pos) = none) : prune s.data.toList = none := by
  rw [← List.take_append_drop pos s.data.toList]; exact prune_none _ _ h

/-- The rune at a place is one of the four letters just if the byte is, and then it takes one byte. -/
theorem rune_at (s : ByteArray) (pos : Nat) (h : pos < s.size) (c : Nat) (hc : c < 128) (e : ((Utf8.decode s pos).1 : Int) = c) : (s[pos]).toNat = c ∧ (Utf8.decode s pos).2 = 1 := by
  by_cases ha : (s[pos]'h).toNat < 128
  · rw [decode_ascii s pos h ha] at e ⊢; exact ⟨by simpa using Int.ofNat.inj e, rfl⟩
  · have := (decode_high s pos h (by omega)).1; omega
theorem rune_not (s : ByteArray) (pos : Nat) (h : pos < s.size) (c : Nat) (e : ((Utf8.decode s pos).1 : Int) ≠ c) (hc : c < 128) : (s[pos]).toNat ≠ c := by
  intro g
  rw [decode_ascii s pos h (by omega)] at e; exact e (by simp [g])

theorem or_nat (n m : Nat) (hn : n < 16) (hm : m < 16) : bits .or .u8 (n : Int) (m : Int) = ((n ||| m : Nat) : Int) := by
  have : ∀ a b : Fin 16, bits .or .u8 ((a.val : Nat) : Int) ((b.val : Nat) : Int) = ((a.val ||| b.val : Nat) : Int) := by decide +kernel
  exact this ⟨n, hn⟩ ⟨m, hm⟩
theorem or_lt (n m : Nat) (hn : n < 16) (hm : m < 16) : n ||| m < 16 := Nat.or_lt_two_pow (n := 4) hn hm

/-- errors.New makes a new block. -/
theorem new_any (s : ByteArray) (w : World) :
    Calls Try.prog 21 #[.string s] w fun e w' => e = .returned (.iface 53 (.pointer (some ⟨w.heap.size, 0, none⟩))) ∧ w' = w.alloc (.cells #[.string s] 55) := by
  go_enter Try.func21, Try.ntmps21
  go_wp2
  go_ret
  exact ⟨rfl, rfl⟩

def errOf : Option Nat → Value → Prop
  | some _, err => err = .nilIface
  | none, err => ∃ a, err = .iface 53 (.pointer (some a))

/-- What ParsePruneOptions comes to. -/
def Parsed (s : ByteArray) (w : World) (e : Ending) (w' : World) : Prop :=
  ∃ err : Value, errOf (prune s.data.toList) err ∧ e = .returned (.tuple #[.int .u8 ((prune s.data.toList).getD 0 : Nat), err]) ∧ Below w.heap.size w w'

theorem parsed_some {s : ByteArray} {w w' : World} {n : Nat} (h : prune s.data.toList = some n) (hb : Below w.heap.size w w') : Parsed s w (.returned (.tuple #[.int .u8 n, .nilIface])) w' :=
  ⟨.nilIface, by rw [h]; rfl, by rw [h]; rfl, hb⟩
theorem parsed_none {s : ByteArray} {w w' : World} {a : Addr} (h : prune s.data.toList = none) (hb : Below w.heap.size w w') : Parsed s w (.returned (.tuple #[.int .u8 0, .iface 53 (.pointer (some a))])) w' :=
  ⟨.iface 53 (.pointer (some a)), by rw [h]; exact ⟨a, rfl⟩, by rw [h]; rfl, hb⟩

def Rel (s : ByteArray) (w : World) (v : Value) (w' : World) : Prop :=
  ∃ (pos n : Nat), w' = w.iter s pos ∧ v = .int .u8 n ∧ pos ≤ s.size ∧ n < 16 ∧ prune (s.data.toList.take pos) = some n

theorem rel_next {s : ByteArray} {w : World} {pos n : Nat} (hlt : pos < s.size) (hn : n < 16) (hp : prune (s.data.toList.take pos) = some n) (c m : Nat) (hc : c < 128) (hm : m < 16) (hs : step n c = some (n ||| m))
    (e : (((Utf8.decode s pos).1 : Int) == c) = true) : Rel s w (.int .u8 (bits .or .u8 (n : Int) m)) (w.iter s (pos + (Utf8.decode s pos).2)) := by
  obtain ⟨h1, h2⟩ := rune_at s pos hlt c hc (by simpa using e)
  refine ⟨pos + 1, n ||| m, by rw [h2], by rw [or_nat n m hn hm], by omega, or_lt n m hn hm, ?_⟩
  rw [prune_at s pos n hlt hp, h1, hs]

theorem measure_next (s : ByteArray) (w : World) (pos : Nat) (hlt : pos < s.size) :
    s.size - (w.iter s (pos + (Utf8.decode s pos).2)).iterPos w.heap.size < s.size - (w.iter s pos).iterPos w.heap.size := by
  have : 1 ≤ (Utf8.decode s pos).2 := by
    by_cases ha : (s[pos]'hlt).toNat < 128
    · rw [decode_ascii s pos hlt ha]; exact Nat.le_refl _
    · exact (decode_high s pos hlt (by omega)).2
  simp; omega

theorem parse_any (s : ByteArray) (w : World) : Calls Try.prog 18 #[.string s] w (Parsed s w) := by
  go_enter Try.func18, Try.ntmps18
  go_wp2
  go_loopw [4] (fun v w' => Rel s w v w') (fun _ w' => s.size - w'.iterPos w.heap.size)
  case atStart => exact ⟨0, 0, rfl, rfl, by omega, by omega, rfl⟩
  case round =>
    obtain ⟨pos, n, rfl, rfl, hle, hn, hp⟩ := hrel
    have Hp := Lib.hid hp
    clear hp
    by_cases hlt : pos < s.size
    · have hnx : ∀ ty, (Instr.next (.pointer (some ⟨w.heap.size, 0, none⟩)) true ty).run Try.prog (w.iter s pos) = _ := fun ty => run_next_any w s pos ty hlt
      go_wp2_with (go_at_call 21; refine (new_any _ _).mono ?_; rintro e w' ⟨rfl, rfl⟩)
      · go_roundw
        case rel => exact rel_next hlt hn Hp.out 84 8 (by omega) (by omega) rfl (by assumption)
        case measure => exact measure_next s w pos hlt
      · go_roundw
        case rel => exact rel_next hlt hn Hp.out 85 2 (by omega) (by omega) rfl (by assumption)
        case measure => exact measure_next s w pos hlt
      · go_roundw
        case rel => exact rel_next hlt hn Hp.out 78 4 (by omega) (by omega) rfl (by assumption)
        case measure => exact measure_next s w pos hlt
      · go_roundw
        case rel => exact rel_next hlt hn Hp.out 86 1 (by omega) (by omega) rfl (by assumption)
        case measure => exact measure_next s w pos hlt
      · rename_i h1 h2 h3 h4
        go_ret2
        refine parsed_none (prune_stop s (pos + 1) ?_) ?_
        · rw [prune_at s pos n hlt Hp.out]
          have e1 := rune_not s pos hlt 84 (by simpa using h1) (by omega)
          have e2 := rune_not s pos hlt 85 (by simpa using h2) (by omega)
          have e3 := rune_not s pos hlt 78 (by simpa using h3) (by omega)
          have e4 := rune_not s pos hlt 86 (by simpa using h4) (by omega)
          simp [step, e1, e2, e3, e4]
        · exact ((Below.refl _ _).alloc (Nat.le_refl _) _).alloc (by simp) _
    · have hnx : ∀ ty, (Instr.next (.pointer (some ⟨w.heap.size, 0, none⟩)) true ty).run Try.prog (w.iter s pos) = _ := fun ty => run_next_end w s pos ty hlt
      go_wp2
      go_ret2
      refine parsed_some ?_ ((Below.refl _ _).alloc (Nat.le_refl _) _)
      have h := Hp.out
      rwa [List.take_of_length_le (by simp; omega)] at h

theorem below_trans {a b c : World} (h : Below a.heap.size a b) (k : Below b.heap.size b c) : Below a.heap.size a c := h.trans (k.mono h.size)
theorem below_drewN {B : Nat} {a w : World} (h : Below B a w) (n : Nat) : Below B a (w.drewN n) := ⟨h.os, h.tape, h.output, h.size, h.block⟩

/-- ParsePrune: the options, and whether all bytes are letters of options. -/
theorem parsePrune_any (s : ByteArray) (w : World) : Calls Try.prog 9 #[.string s] w fun e w' =>
    e = .returned (.tuple #[.int .u8 ((prune s.data.toList).getD 0 : Nat), .bool (prune s.data.toList).isSome]) ∧ Below w.heap.size w w' := by
  go_enter Try.func9, Try.ntmps9
  go_wp2_with (go_at_call 18; refine (parse_any s _).mono ?_; rintro e w1 ⟨err, herr, rfl, hb⟩)
  generalize hp : prune s.data.toList = q at *
  have Hp := Lib.hid hp
  clear hp
  cases q with
  | none =>
    obtain ⟨a, rfl⟩ := herr
    go_quiet (fail)
    go_wp2
    go_ret2
    exact ⟨by rw [Hp.out]; rfl, below_drewN hb _⟩
  | some n =>
    obtain rfl : err = .nilIface := herr
    go_quiet (fail)
    go_wp2
    go_ret2
    exact ⟨by rw [Hp.out]; rfl, below_drewN hb _⟩

/-- The letters of options, in their order. -/
def optText (n : Nat) : ByteArray :=
  (if n &&& 4 = 0 then ⟨#[]⟩ else ⟨#[78]⟩) ++ (if n &&& 2 = 0 then ⟨#[]⟩ else ⟨#[85]⟩) ++ (if n &&& 8 = 0 then ⟨#[]⟩ else ⟨#[84]⟩) ++ (if n &&& 1 = 0 then ⟨#[]⟩ else ⟨#[86]⟩)
theorem text_all : ∀ n : Fin 16, spec_DepPrunes.f 6 ((n.val : Nat) : Int) = some (optText n.val) ∧ prune (optText n.val).data.toList = some n.val ∧ (optText n.val).size ≤ 4 := by decide +kernel

theorem string_any (n : Nat) (hn : n < 16) (w : World) : Calls Try.prog 17 #[.int .u8 n] w fun e w' => e = .returned (.string (optText n)) ∧ Below w.heap.size w w' := by
  have h : n = 0 ∨ n = 1 ∨ n = 2 ∨ n = 3 ∨ n = 4 ∨ n = 5 ∨ n = 6 ∨ n = 7 ∨ n = 8 ∨ n = 9 ∨ n = 10 ∨ n = 11 ∨ n = 12 ∨ n = 13 ∨ n = 14 ∨ n = 15 := by omega
  clear hn
  rcases h with rfl | rfl | rfl | rfl | rfl | rfl | rfl | rfl | rfl | rfl | rfl | rfl | rfl | rfl | rfl | rfl
  all_goals
    go_enter Try.func17, Try.ntmps17
    go_wp2
    go_ret
    exact ⟨by rfl, Below.refl _ _⟩

theorem pruneText_any (n : Nat) (hn : n < 16) (w : World) : Calls Try.prog 8 #[.int .u8 n] w fun e w' => e = .returned (.string (optText n)) ∧ Below w.heap.size w w' := by
  go_enter Try.func8, Try.ntmps8
  go_wp2_with (go_at_call 17; refine (string_any n hn _).mono ?_; rintro e w1 ⟨rfl, hb⟩)
  go_ret
  exact ⟨rfl, hb⟩
theorem pruneText_two (w : World) : Calls Try.prog 8 #[.int .u8 2] w fun e w' => e = .returned (.string ⟨#[85]⟩) ∧ Below w.heap.size w w' :=
  pruneText_any 2 (by omega) w
theorem depPrunes_any (n : Nat) (hn : n < 16) (w : World) : Calls Try.prog 11 #[.int .u8 n] w fun e w' => e = .returned (.string (optText n)) ∧ Below w.heap.size w w' :=
  spec_DepPrunes.calls 6 n (optText n) w (text_all ⟨n, hn⟩).1

theorem wrap_next {i : Int} {n : Nat} (h0 : 0 ≤ i) (h : i < (n : Int)) (hn : n ≤ 140737488351232) : wrap64 (i + 1) = i + 1 := by
  unfold wrap64
  omega

theorem bt_nat (s : ByteArray) (pos : Nat) (h : pos < s.size) : bt s (pos : Int) = ((s[pos]).toNat : Int) := by
  have := bt_at s (pos : Int) (by simpa using h)
  rw [← this]; simp

theorem dep_tells (s : ByteArray) (hn : s.size ≤ 140737488351232) (d : Nat) : ∀ (k pos n : Nat), pos ≤ s.size → s.size - pos = d → d < k → n < 16 → prune (s.data.toList.take pos) = some n →
    spec_DepPruneOf.l0 k s n (s.size : Int) pos = some ((((prune s.data.toList).getD 0 : Nat) : Int), (prune s.data.toList).isSome) := by
  induction d with
  | zero =>
    intro k pos n h1 hd hk hn hp
    obtain ⟨k, rfl⟩ : ∃ m, k = m + 1 := ⟨k - 1, by omega⟩
    rw [List.take_of_length_le (by simp; omega)] at hp
    simp only [spec_DepPruneOf.l0]; rw [if_neg (by omega), hp]; rfl
  | succ d ih =>
    intro k pos n h1 hd hk hn16 hp
    obtain ⟨k, rfl⟩ : ∃ m, k = m + 1 := ⟨k - 1, by omega⟩
    have hlt : pos < s.size := by omega
    have hlt' : (pos : Int) < (s.size : Int) := by omega
    have hat := prune_at s pos n hlt hp
    have e := bt_nat s pos hlt
    have hw : wrap64 ((pos : Int) + 1) = ((pos + 1 : Nat) : Int) := by rw [wrap_next (by omega) hlt' hn]; omega
    have go : ∀ m, m < 16 → step n (s[pos]).toNat = some (n ||| m) → spec_DepPruneOf.l0 k s (bits .or .u8 n m) (s.size : Int) (wrap64 ((pos : Int) + 1)) = some ((((prune s.data.toList).getD 0 : Nat) : Int), (prune s.data.toList).isSome) := by
      intro m hm hs
      rw [hw, or_nat n m hn16 hm]
      exact ih k (pos + 1) (n ||| m) (by omega) (by omega) (by omega) (or_lt n m hn16 hm) (by rw [hat, hs])
    simp only [spec_DepPruneOf.l0]
    rw [if_pos hlt', if_pos (by omega), if_pos hlt', e]
    by_cases c1 : (s[pos]).toNat = 86
    · rw [if_pos (by omega)]; exact go 1 (by omega) (by rw [c1]; rfl)
    rw [if_neg (by omega)]
    by_cases c2 : (s[pos]).toNat = 85
    · rw [if_pos (by omega)]; exact go 2 (by omega) (by rw [c2]; rfl)
    rw [if_neg (by omega)]
    by_cases c3 : (s[pos]).toNat = 78
    · rw [if_pos (by omega)]; exact go 4 (by omega) (by rw [c3]; rfl)
    rw [if_neg (by omega)]
    by_cases c4 : (s[pos]).toNat = 84
    · rw [if_pos (by omega)]; exact go 8 (by omega) (by rw [c4]; rfl)
    rw [if_neg (by omega)]
    have hnone : prune s.data.toList = none := prune_stop s (pos + 1) (by rw [hat]; unfold step; rw [if_neg c4, if_neg c2, if_neg c3, if_neg c1])
    rw [hnone]; rfl

theorem depPruneOf_any (s : ByteArray) (w : World) (hs : s.size ≤ 140737488351232) : Calls Try.prog 10 #[.string s] w fun e w' =>
    e = .returned (.tuple #[.int .u8 ((prune s.data.toList).getD 0 : Nat), .bool (prune s.data.toList).isSome]) ∧ Below w.heap.size w w' :=
  (spec_DepPruneOf.calls (s.size + 1) s _ _ w (dep_tells s hs s.size (s.size + 1) 0 0 (by omega) (by omega) (by omega) (by omega) rfl)).mono fun _ _ ⟨h, hd⟩ => ⟨h, hd.below⟩

theorem law_big (s : ByteArray) (n : Nat) (w : World) (hs : 2147483647 < s.size) :
    Calls Try.prog 4 #[.string s, .int .u8 n] w fun e w' => e = .returned (.bool true) ∧ Below w.heap.size w w' := by
  go_enter Try.func4, Try.ntmps4
  go_wp2
  go_ret
  exact ⟨rfl, Below.refl _ _⟩

theorem law_out (s : ByteArray) (n : Nat) (w : World) (hs : s.size ≤ 2147483647) (h : 20 < s.size ∨ 16 ≤ n) :
    Calls Try.prog 4 #[.string s, .int .u8 n] w fun e w' => e = .returned (.bool true) ∧ Below w.heap.size w w' := by
  by_cases h1 : 20 < s.size
  · clear h
    go_enter Try.func4, Try.ntmps4
    go_wp2_with (go_at_call 8; refine (pruneText_two _).mono ?_; rintro e w1 ⟨rfl, hb⟩)
    go_ret
    exact ⟨rfl, hb⟩
  · have h2 : 16 ≤ n := by omega
    clear h
    go_enter Try.func4, Try.ntmps4
    go_wp2_with (go_at_call 8; refine (pruneText_two _).mono ?_; rintro e w1 ⟨rfl, hb⟩)
    go_ret
    exact ⟨rfl, hb⟩


theorem law_in (s : ByteArray) (n : Nat) (hn : n < 16) (w : World) (hs : s.size ≤ 20) :
    Calls Try.prog 4 #[.string s, .int .u8 n] w fun e w' => e = .returned (.bool true) ∧ Below w.heap.size w w' := by
  have d9 := fun w => parsePrune_any s w
  have d10 := fun w => depPruneOf_any s w (by omega)
  have e9 := fun w => parsePrune_any (optText n) w
  rw [(text_all ⟨n, hn⟩).2.1] at e9
  have D9 := Lib.hid d9
  have D10 := Lib.hid d10
  have E9 := Lib.hid e9
  clear d9 d10 e9
  have ho : (n : Int) ≤ 255 := by omega
  generalize prune s.data.toList = q at *
  cases q
  all_goals
    simp only [Option.getD_none, Option.isSome_none, Option.getD_some, Option.isSome_some] at D9 D10 E9
    go_enter Try.func4, Try.ntmps4
    go_wp2_with (first
      | (go_at_call 9; ((with_reducible refine (D9.out _).mono ?_); rintro e w1 ⟨rfl, hb1⟩))
      | (go_at_call 10; ((with_reducible refine (D10.out _).mono ?_); rintro e w2 ⟨rfl, hb2⟩))
      | (go_at_call 8; ((with_reducible refine (pruneText_two _).mono ?_); rintro e w6 ⟨rfl, hb6⟩))
      | (go_at_call 8; ((with_reducible refine (pruneText_any n hn _).mono ?_); rintro e w3 ⟨rfl, hb3'⟩))
      | (go_at_call 11; ((with_reducible refine (depPrunes_any n hn _).mono ?_); rintro e w4 ⟨rfl, hb4⟩))
      | (go_at_call 9; ((with_reducible refine (E9.out _).mono ?_); rintro e w5 ⟨rfl, hb5⟩)))
    go_ret
    exact ⟨rfl, below_trans (below_trans (below_trans (below_trans (below_trans hb1 hb2) (by assumption)) hb4) (below_trans hb3' hb5)) hb6⟩

theorem law_any (s : ByteArray) (z : Int) (w : World) (_ : s.size ≤ 140737488351232) (hz : (Lit.int .u8 z).wf = true) :
    Calls Try.prog 4 #[.string s, .int .u8 z] w fun e w' => e = .returned (.bool true) ∧ Below w.heap.size w w' := by
  have h0 : 0 ≤ z := by simp only [Lit.wf, Bool.and_eq_true, decide_eq_true_eq] at hz; exact hz.1
  obtain ⟨n, rfl⟩ := Int.eq_ofNat_of_zero_le h0
  by_cases h1 : 2147483647 < s.size
  · exact law_big s n w h1
  · by_cases h2 : 20 < s.size ∨ 16 ≤ n
    · exact law_out s n w (by omega) h2
    · exact law_in s n (by omega) w (by omega)

end Go.Proofs.Ytehcnjjkklogbaa.FnPruneOwn
