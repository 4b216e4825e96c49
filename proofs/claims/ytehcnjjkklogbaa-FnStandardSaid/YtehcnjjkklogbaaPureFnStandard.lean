/- FnStandard answers true for every text: where the text has at most 200 bytes, the package's loop and the reference's loop agree at every byte; a longer text asks one known path alone. No condition. -/
import Derived.Test.YtehcnjjkklogbaaPFnStandardx1
namespace Go.Proofs.Ytehcnjjkklogbaa.Pure
open Go.RowKit Go.Proofs.Ytehcnjjkklogbaa.PFnStandard Go.Proofs.YtehcnjjkklogbaaW.PrintWords Go.Proofs.YtehcnjjkklogbaaW.PrintLast

theorem wrap_next {i : Int} {n : Nat} (h0 : 0 ≤ i) (h : i < (n : Int)) (hn : n ≤ 140737488351232) : wrap64 (i + 1) = i + 1 := by
  unfold wrap64
  omega

/-- Both loops, from one place on, tell the same. -/
theorem both_tell (s : ByteArray) (hn : s.size ≤ 140737488351232) (d : Nat) : ∀ (k : Nat) (i : Int), 0 ≤ i → i ≤ s.size → (s.size : Int) - i = d → 2 * d + 1 < k →
    ∃ r, paths_IsStandardImportPath.l0 k s i = some r ∧ spec_DepStandard.l0 k s (s.size : Int) i = some r := by
  induction d with
  | zero =>
    intro k i h0 h1 hd hk
    obtain ⟨k, rfl⟩ : ∃ m, k = m + 2 := ⟨k - 2, by omega⟩
    refine ⟨true, ?_, ?_⟩
    · simp only [paths_IsStandardImportPath.l0, paths_IsStandardImportPath.j1]; rw [if_neg (by omega), if_neg (by decide)]
    · simp only [spec_DepStandard.l0]; rw [if_neg (by omega)]
  | succ d ih =>
    intro k i h0 h1 hd hk
    obtain ⟨k, rfl⟩ : ∃ m, k = m + 2 := ⟨k - 2, by omega⟩
    have hlt : i < (s.size : Int) := by omega
    by_cases e : bt s i = 47
    · refine ⟨true, ?_, ?_⟩
      · simp only [paths_IsStandardImportPath.l0, paths_IsStandardImportPath.j1]
        rw [if_pos hlt, if_pos h0, if_neg (by simp [e])]
      · simp only [spec_DepStandard.l0]
        rw [if_pos hlt, if_pos h0, if_pos hlt, if_pos e]
    · by_cases g : bt s i = 46
      · refine ⟨false, ?_, ?_⟩
        · simp only [paths_IsStandardImportPath.l0, paths_IsStandardImportPath.j1]
          rw [if_pos hlt, if_pos h0, if_pos (by simp [e]), if_pos h0, if_pos hlt, if_pos g]
        · simp only [spec_DepStandard.l0]
          rw [if_pos hlt, if_pos h0, if_pos hlt, if_neg e, if_pos g]
      · obtain ⟨r, hr, hs⟩ := ih k (i + 1) (by omega) (by omega) (by omega) (by omega)
        refine ⟨r, ?_, ?_⟩
        · simp only [paths_IsStandardImportPath.l0, paths_IsStandardImportPath.j1]
          rw [if_pos hlt, if_pos h0, if_pos (by simp [e]), if_pos h0, if_pos hlt, if_neg g, wrap_next h0 hlt hn]
          exact hr
        · simp only [spec_DepStandard.l0]
          rw [if_pos hlt, if_pos h0, if_pos hlt, if_neg e, if_neg g, wrap_next h0 hlt hn]
          have := spec_DepStandard.mono_l k s (s.size : Int) (i + 1) r hs
          simpa only [spec_DepStandard.l0] using this

theorem fmt_tells : paths_IsStandardImportPath.l0 10 (⟨#[102, 109, 116]⟩ : ByteArray) 0 = some true := by decide +kernel

theorem more {s : ByteArray} {r : Bool} : ∀ (d k : Nat), paths_IsStandardImportPath.f k s = some r → paths_IsStandardImportPath.f (k + d) s = some r
  | 0, _, h => h
  | d + 1, k, h => paths_IsStandardImportPath.mono s (k + d) r (more d k h)

theorem FnStandard : laws_FnStandard.Pure := by
  intro s hn
  refine ⟨2 * s.size + 12, ?_⟩
  have hf : impl_IsStandard.f (2 * s.size + 12) (⟨#[102, 109, 116]⟩ : ByteArray) = some true := by
    unfold impl_IsStandard.f
    have h : paths_IsStandardImportPath.f 10 (⟨#[102, 109, 116]⟩ : ByteArray) = some true := fmt_tells
    have h2 := more (2 * s.size + 2) 10 h
    rw [show 10 + (2 * s.size + 2) = 2 * s.size + 12 by omega] at h2
    rw [h2]; rfl
  unfold laws_FnStandard.f
  rw [hf]
  by_cases c1 : (s.size : Int) > 2147483647
  · rw [if_pos c1]
  · rw [if_neg c1]
    by_cases c2 : (s.size : Int) > 200
    · rw [if_pos c2]; rfl
    · rw [if_neg c2]
      obtain ⟨r, hr, hs⟩ := both_tell s hn s.size (2 * s.size + 12) 0 (by omega) (by omega) (by omega) (by omega)
      unfold impl_IsStandard.f paths_IsStandardImportPath.f spec_DepStandard.f
      rw [hr, hs]
      simp

end Go.Proofs.Ytehcnjjkklogbaa.Pure
