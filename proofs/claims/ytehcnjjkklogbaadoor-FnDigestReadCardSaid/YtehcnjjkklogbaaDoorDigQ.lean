/- What the print wrote of some functions: a plain Lean function of each, and that the call comes to it. -/
import Derived.Test.YtehcnjjkklogbaaDoorPFnDigestx0
namespace Go.Proofs.YtehcnjjkklogbaaDoor.PFnDigest
open Go.RowKit Go.Proofs.YtehcnjjkklogbaaDoorW.PrintWords Go.Proofs.YtehcnjjkklogbaaDoorW.PrintLast Go.Proofs.YtehcnjjkklogbaaDoorW.PrintMore
attribute [local go_sem] max2_int min2_int max_two min_two max_three min_three max_four min_four   -- for this text's walks alone
set_option linter.unusedVariables false
set_option linter.unusedSimpArgs false

/-! ### laws_isMixed: function 9 -/
def laws_isMixed.f (a0 : ByteArray) : Option (Bool) := if 0 < (a0.size : Int) then (if 1 < (a0.size : Int) then (if 97 ≤ (bt a0 0) then (if (bt a0 0) ≤ 102 then (if 65 ≤ (bt a0 1) then (if (bt a0 1) ≤ 70 then (some true) else (if 65 ≤ (bt a0 0) then (if (bt a0 0) ≤ 70 then (if 97 ≤ (bt a0 1) then (some (decide ((bt a0 1) ≤ 102))) else (some false)) else (some false)) else (some false))) else (if 65 ≤ (bt a0 0) then (if (bt a0 0) ≤ 70 then (if 97 ≤ (bt a0 1) then (some (decide ((bt a0 1) ≤ 102))) else (some false)) else (some false)) else (some false))) else (if 65 ≤ (bt a0 0) then (if (bt a0 0) ≤ 70 then (if 97 ≤ (bt a0 1) then (some (decide ((bt a0 1) ≤ 102))) else (some false)) else (some false)) else (some false))) else (if 65 ≤ (bt a0 0) then (if (bt a0 0) ≤ 70 then (if 97 ≤ (bt a0 1) then (some (decide ((bt a0 1) ≤ 102))) else (some false)) else (some false)) else (some false))) else (none)) else (none)
set_option maxHeartbeats 8000000 in
set_option maxRecDepth 100000 in
theorem laws_isMixed.calls (a0 : ByteArray) (r : Bool) (w : World) (h : laws_isMixed.f a0 = some r) :
    Calls Tryd.prog 9 #[.string a0] w fun e w' => e = .returned (.bool r) ∧ Drawn0 w w' := by
  have H : (if 0 < (a0.size : Int) then (if 1 < (a0.size : Int) then (if 97 ≤ (bt a0 0) then (if (bt a0 0) ≤ 102 then (if 65 ≤ (bt a0 1) then (if (bt a0 1) ≤ 70 then (some true) else (if 65 ≤ (bt a0 0) then (if (bt a0 0) ≤ 70 then (if 97 ≤ (bt a0 1) then (some (decide ((bt a0 1) ≤ 102))) else (some false)) else (some false)) else (some false))) else (if 65 ≤ (bt a0 0) then (if (bt a0 0) ≤ 70 then (if 97 ≤ (bt a0 1) then (some (decide ((bt a0 1) ≤ 102))) else (some false)) else (some false)) else (some false))) else (if 65 ≤ (bt a0 0) then (if (bt a0 0) ≤ 70 then (if 97 ≤ (bt a0 1) then (some (decide ((bt a0 1) ≤ 102))) else (some false)) else (some false)) else (some false))) else (if 65 ≤ (bt a0 0) then (if (bt a0 0) ≤ 70 then (if 97 ≤ (bt a0 1) then (some (decide ((bt a0 1) ≤ 102))) else (some false)) else (some false)) else (some false))) else (none)) else (none)) = some r := h
  clear h
  by_cases c2 : 0 < (a0.size : Int)
  · rw [if_pos c2] at H
    have c2b0 : decide (0 < (a0.size : Int)) = true := decide_eq_true c2
    have c2b1 : decide (0 < a0.size) = true := decide_eq_true (by omega)
    clear c2
    by_cases c4 : 1 < (a0.size : Int)
    · rw [if_pos c4] at H
      have c4b0 : decide (1 < (a0.size : Int)) = true := decide_eq_true c4
      have c4b1 : decide (1 < a0.size) = true := decide_eq_true (by omega)
      clear c4
      by_cases c6 : 97 ≤ (bt a0 0)
      · rw [if_pos c6] at H
        have c6b0 : decide (97 ≤ (bt a0 0)) = true := decide_eq_true c6
        clear c6
        by_cases c7 : (bt a0 0) ≤ 102
        · rw [if_pos c7] at H
          have c7b0 : decide ((bt a0 0) ≤ 102) = true := decide_eq_true c7
          clear c7
          by_cases c8 : 65 ≤ (bt a0 1)
          · rw [if_pos c8] at H
            have c8b0 : decide (65 ≤ (bt a0 1)) = true := decide_eq_true c8
            clear c8
            by_cases c9 : (bt a0 1) ≤ 70
            · rw [if_pos c9] at H
              have c9b0 : decide ((bt a0 1) ≤ 70) = true := decide_eq_true c9
              clear c9
              obtain rfl := Option.some.inj H
              have p3 : 0 ≤ (0 : Int) := (by omega)
              have q3 : 0 < a0.size := (by have : (0 : Int) < (a0.size : Int) := of_decide_eq_true (by first | (with_reducible assumption) | assumption); omega)
              have hx3 : ∀ h : 0 < a0.size, ((a0[0]'h).toNat : Int) = bt a0 0 := bt_at a0 0
              clear p3
              have qi3 : (0 < (a0.size : Int)) = True := eq_true (of_decide_eq_true (by first | (with_reducible assumption) | assumption))
              replace q3 := eq_true q3
              have p5 : 0 ≤ (1 : Int) := (by omega)
              have q5 : 1 < a0.size := (by have : (1 : Int) < (a0.size : Int) := of_decide_eq_true (by first | (with_reducible assumption) | assumption); omega)
              have hx5 : ∀ h : 1 < a0.size, ((a0[1]'h).toNat : Int) = bt a0 1 := bt_at a0 1
              clear p5
              have qi5 : (1 < (a0.size : Int)) = True := eq_true (of_decide_eq_true (by first | (with_reducible assumption) | assumption))
              replace q5 := eq_true q5
              go_enter Tryd.func9, Tryd.ntmps9
              go_wp2
              repeat (go_quiet (fail); try go_wp2)
              go_ret
              exact ⟨by first | rfl | (simp; done) | (simp [*]; done), by repeat (first | exact Drawn0.refl _ | apply Drawn0.step)⟩
            · rw [if_neg c9] at H
              have c9b0 : decide ((bt a0 1) ≤ 70) = false := decide_eq_false c9
              clear c9
              by_cases c10 : 65 ≤ (bt a0 0)
              · rw [if_pos c10] at H
                have c10b0 : decide (65 ≤ (bt a0 0)) = true := decide_eq_true c10
                clear c10
                by_cases c11 : (bt a0 0) ≤ 70
                · rw [if_pos c11] at H
                  have c11b0 : decide ((bt a0 0) ≤ 70) = true := decide_eq_true c11
                  clear c11
                  by_cases c12 : 97 ≤ (bt a0 1)
                  · rw [if_pos c12] at H
                    have c12b0 : decide (97 ≤ (bt a0 1)) = true := decide_eq_true c12
                    clear c12
                    obtain rfl := Option.some.inj H
                    have p3 : 0 ≤ (0 : Int) := (by omega)
                    have q3 : 0 < a0.size := (by have : (0 : Int) < (a0.size : Int) := of_decide_eq_true (by first | (with_reducible assumption) | assumption); omega)
                    have hx3 : ∀ h : 0 < a0.size, ((a0[0]'h).toNat : Int) = bt a0 0 := bt_at a0 0
                    clear p3
                    have qi3 : (0 < (a0.size : Int)) = True := eq_true (of_decide_eq_true (by first | (with_reducible assumption) | assumption))
                    replace q3 := eq_true q3
                    have p5 : 0 ≤ (1 : Int) := (by omega)
                    have q5 : 1 < a0.size := (by have : (1 : Int) < (a0.size : Int) := of_decide_eq_true (by first | (with_reducible assumption) | assumption); omega)
                    have hx5 : ∀ h : 1 < a0.size, ((a0[1]'h).toNat : Int) = bt a0 1 := bt_at a0 1
                    clear p5
                    have qi5 : (1 < (a0.size : Int)) = True := eq_true (of_decide_eq_true (by first | (with_reducible assumption) | assumption))
                    replace q5 := eq_true q5
                    go_enter Tryd.func9, Tryd.ntmps9
                    go_wp2
                    repeat (go_quiet (fail); try go_wp2)
                    go_ret
                    exact ⟨by first | rfl | (simp; done) | (simp [*]; done), by repeat (first | exact Drawn0.refl _ | apply Drawn0.step)⟩
                  · rw [if_neg c12] at H
                    have c12b0 : decide (97 ≤ (bt a0 1)) = false := decide_eq_false c12
                    clear c12
                    obtain rfl := Option.some.inj H
                    have p3 : 0 ≤ (0 : Int) := (by omega)
                    have q3 : 0 < a0.size := (by have : (0 : Int) < (a0.size : Int) := of_decide_eq_true (by first | (with_reducible assumption) | assumption); omega)
                    have hx3 : ∀ h : 0 < a0.size, ((a0[0]'h).toNat : Int) = bt a0 0 := bt_at a0 0
                    clear p3
                    have qi3 : (0 < (a0.size : Int)) = True := eq_true (of_decide_eq_true (by first | (with_reducible assumption) | assumption))
                    replace q3 := eq_true q3
                    have p5 : 0 ≤ (1 : Int) := (by omega)
                    have q5 : 1 < a0.size := (by have : (1 : Int) < (a0.size : Int) := of_decide_eq_true (by first | (with_reducible assumption) | assumption); omega)
                    have hx5 : ∀ h : 1 < a0.size, ((a0[1]'h).toNat : Int) = bt a0 1 := bt_at a0 1
                    clear p5
                    have qi5 : (1 < (a0.size : Int)) = True := eq_true (of_decide_eq_true (by first | (with_reducible assumption) | assumption))
                    replace q5 := eq_true q5
                    go_enter Tryd.func9, Tryd.ntmps9
                    go_wp2
                    repeat (go_quiet (fail); try go_wp2)
                    go_ret
                    exact ⟨by first | rfl | (simp; done) | (simp [*]; done), by repeat (first | exact Drawn0.refl _ | apply Drawn0.step)⟩
                · rw [if_neg c11] at H
                  have c11b0 : decide ((bt a0 0) ≤ 70) = false := decide_eq_false c11
                  clear c11
                  obtain rfl := Option.some.inj H
                  have p3 : 0 ≤ (0 : Int) := (by omega)
                  have q3 : 0 < a0.size := (by have : (0 : Int) < (a0.size : Int) := of_decide_eq_true (by first | (with_reducible assumption) | assumption); omega)
                  have hx3 : ∀ h : 0 < a0.size, ((a0[0]'h).toNat : Int) = bt a0 0 := bt_at a0 0
                  clear p3
                  have qi3 : (0 < (a0.size : Int)) = True := eq_true (of_decide_eq_true (by first | (with_reducible assumption) | assumption))
                  replace q3 := eq_true q3
                  have p5 : 0 ≤ (1 : Int) := (by omega)
                  have q5 : 1 < a0.size := (by have : (1 : Int) < (a0.size : Int) := of_decide_eq_true (by first | (with_reducible assumption) | assumption); omega)
                  have hx5 : ∀ h : 1 < a0.size, ((a0[1]'h).toNat : Int) = bt a0 1 := bt_at a0 1
                  clear p5
                  have qi5 : (1 < (a0.size : Int)) = True := eq_true (of_decide_eq_true (by first | (with_reducible assumption) | assumption))
                  replace q5 := eq_true q5
                  go_enter Tryd.func9, Tryd.ntmps9
                  go_wp2
                  repeat (go_quiet (fail); try go_wp2)
                  go_ret
                  exact ⟨by first | rfl | (simp; done) | (simp [*]; done), by repeat (first | exact Drawn0.refl _ | apply Drawn0.step)⟩
              · rw [if_neg c10] at H
                have c10b0 : decide (65 ≤ (bt a0 0)) = false := decide_eq_false c10
                clear c10
                obtain rfl := Option.some.inj H
                have p3 : 0 ≤ (0 : Int) := (by omega)
                have q3 : 0 < a0.size := (by have : (0 : Int) < (a0.size : Int) := of_decide_eq_true (by first | (with_reducible assumption) | assumption); omega)
                have hx3 : ∀ h : 0 < a0.size, ((a0[0]'h).toNat : Int) = bt a0 0 := bt_at a0 0
                clear p3
                have qi3 : (0 < (a0.size : Int)) = True := eq_true (of_decide_eq_true (by first | (with_reducible assumption) | assumption))
                replace q3 := eq_true q3
                have p5 : 0 ≤ (1 : Int) := (by omega)
                have q5 : 1 < a0.size := (by have : (1 : Int) < (a0.size : Int) := of_decide_eq_true (by first | (with_reducible assumption) | assumption); omega)
                have hx5 : ∀ h : 1 < a0.size, ((a0[1]'h).toNat : Int) = bt a0 1 := bt_at a0 1
                clear p5
                have qi5 : (1 < (a0.size : Int)) = True := eq_true (of_decide_eq_true (by first | (with_reducible assumption) | assumption))
                replace q5 := eq_true q5
                go_enter Tryd.func9, Tryd.ntmps9
                go_wp2
                repeat (go_quiet (fail); try go_wp2)
                go_ret
                exact ⟨by first | rfl | (simp; done) | (simp [*]; done), by repeat (first | exact Drawn0.refl _ | apply Drawn0.step)⟩
          · rw [if_neg c8] at H
            have c8b0 : decide (65 ≤ (bt a0 1)) = false := decide_eq_false c8
            clear c8
            by_cases c13 : 65 ≤ (bt a0 0)
            · rw [if_pos c13] at H
              have c13b0 : decide (65 ≤ (bt a0 0)) = true := decide_eq_true c13
              clear c13
              by_cases c14 : (bt a0 0) ≤ 70
              · rw [if_pos c14] at H
                have c14b0 : decide ((bt a0 0) ≤ 70) = true := decide_eq_true c14
                clear c14
                by_cases c15 : 97 ≤ (bt a0 1)
                · rw [if_pos c15] at H
                  have c15b0 : decide (97 ≤ (bt a0 1)) = true := decide_eq_true c15
                  clear c15
                  obtain rfl := Option.some.inj H
                  have p3 : 0 ≤ (0 : Int) := (by omega)
                  have q3 : 0 < a0.size := (by have : (0 : Int) < (a0.size : Int) := of_decide_eq_true (by first | (with_reducible assumption) | assumption); omega)
                  have hx3 : ∀ h : 0 < a0.size, ((a0[0]'h).toNat : Int) = bt a0 0 := bt_at a0 0
                  clear p3
                  have qi3 : (0 < (a0.size : Int)) = True := eq_true (of_decide_eq_true (by first | (with_reducible assumption) | assumption))
                  replace q3 := eq_true q3
                  have p5 : 0 ≤ (1 : Int) := (by omega)
                  have q5 : 1 < a0.size := (by have : (1 : Int) < (a0.size : Int) := of_decide_eq_true (by first | (with_reducible assumption) | assumption); omega)
                  have hx5 : ∀ h : 1 < a0.size, ((a0[1]'h).toNat : Int) = bt a0 1 := bt_at a0 1
                  clear p5
                  have qi5 : (1 < (a0.size : Int)) = True := eq_true (of_decide_eq_true (by first | (with_reducible assumption) | assumption))
                  replace q5 := eq_true q5
                  go_enter Tryd.func9, Tryd.ntmps9
                  go_wp2
                  repeat (go_quiet (fail); try go_wp2)
                  go_ret
                  exact ⟨by first | rfl | (simp; done) | (simp [*]; done), by repeat (first | exact Drawn0.refl _ | apply Drawn0.step)⟩
                · rw [if_neg c15] at H
                  have c15b0 : decide (97 ≤ (bt a0 1)) = false := decide_eq_false c15
                  clear c15
                  obtain rfl := Option.some.inj H
                  have p3 : 0 ≤ (0 : Int) := (by omega)
                  have q3 : 0 < a0.size := (by have : (0 : Int) < (a0.size : Int) := of_decide_eq_true (by first | (with_reducible assumption) | assumption); omega)
                  have hx3 : ∀ h : 0 < a0.size, ((a0[0]'h).toNat : Int) = bt a0 0 := bt_at a0 0
                  clear p3
                  have qi3 : (0 < (a0.size : Int)) = True := eq_true (of_decide_eq_true (by first | (with_reducible assumption) | assumption))
                  replace q3 := eq_true q3
                  have p5 : 0 ≤ (1 : Int) := (by omega)
                  have q5 : 1 < a0.size := (by have : (1 : Int) < (a0.size : Int) := of_decide_eq_true (by first | (with_reducible assumption) | assumption); omega)
                  have hx5 : ∀ h : 1 < a0.size, ((a0[1]'h).toNat : Int) = bt a0 1 := bt_at a0 1
                  clear p5
                  have qi5 : (1 < (a0.size : Int)) = True := eq_true (of_decide_eq_true (by first | (with_reducible assumption) | assumption))
                  replace q5 := eq_true q5
                  go_enter Tryd.func9, Tryd.ntmps9
                  go_wp2
                  repeat (go_quiet (fail); try go_wp2)
                  go_ret
                  exact ⟨by first | rfl | (simp; done) | (simp [*]; done), by repeat (first | exact Drawn0.refl _ | apply Drawn0.step)⟩
              · rw [if_neg c14] at H
                have c14b0 : decide ((bt a0 0) ≤ 70) = false := decide_eq_false c14
                clear c14
                obtain rfl := Option.some.inj H
                have p3 : 0 ≤ (0 : Int) := (by omega)
                have q3 : 0 < a0.size := (by have : (0 : Int) < (a0.size : Int) := of_decide_eq_true (by first | (with_reducible assumption) | assumption); omega)
                have hx3 : ∀ h : 0 < a0.size, ((a0[0]'h).toNat : Int) = bt a0 0 := bt_at a0 0
                clear p3
                have qi3 : (0 < (a0.size : Int)) = True := eq_true (of_decide_eq_true (by first | (with_reducible assumption) | assumption))
                replace q3 := eq_true q3
                have p5 : 0 ≤ (1 : Int) := (by omega)
                have q5 : 1 < a0.size := (by have : (1 : Int) < (a0.size : Int) := of_decide_eq_true (by first | (with_reducible assumption) | assumption); omega)
                have hx5 : ∀ h : 1 < a0.size, ((a0[1]'h).toNat : Int) = bt a0 1 := bt_at a0 1
                clear p5
                have qi5 : (1 < (a0.size : Int)) = True := eq_true (of_decide_eq_true (by first | (with_reducible assumption) | assumption))
                replace q5 := eq_true q5
                go_enter Tryd.func9, Tryd.ntmps9
                go_wp2
                repeat (go_quiet (fail); try go_wp2)
                go_ret
                exact ⟨by first | rfl | (simp; done) | (simp [*]; done), by repeat (first | exact Drawn0.refl _ | apply Drawn0.step)⟩
            · rw [if_neg c13] at H
              have c13b0 : decide (65 ≤ (bt a0 0)) = false := decide_eq_false c13
              clear c13
              obtain rfl := Option.some.inj H
              have p3 : 0 ≤ (0 : Int) := (by omega)
              have q3 : 0 < a0.size := (by have : (0 : Int) < (a0.size : Int) := of_decide_eq_true (by first | (with_reducible assumption) | assumption); omega)
              have hx3 : ∀ h : 0 < a0.size, ((a0[0]'h).toNat : Int) = bt a0 0 := bt_at a0 0
              clear p3
              have qi3 : (0 < (a0.size : Int)) = True := eq_true (of_decide_eq_true (by first | (with_reducible assumption) | assumption))
              replace q3 := eq_true q3
              have p5 : 0 ≤ (1 : Int) := (by omega)
              have q5 : 1 < a0.size := (by have : (1 : Int) < (a0.size : Int) := of_decide_eq_true (by first | (with_reducible assumption) | assumption); omega)
              have hx5 : ∀ h : 1 < a0.size, ((a0[1]'h).toNat : Int) = bt a0 1 := bt_at a0 1
              clear p5
              have qi5 : (1 < (a0.size : Int)) = True := eq_true (of_decide_eq_true (by first | (with_reducible assumption) | assumption))
              replace q5 := eq_true q5
              go_enter Tryd.func9, Tryd.ntmps9
              go_wp2
              repeat (go_quiet (fail); try go_wp2)
              go_ret
              exact ⟨by first | rfl | (simp; done) | (simp [*]; done), by repeat (first | exact Drawn0.refl _ | apply Drawn0.step)⟩
        · rw [if_neg c7] at H
          have c7b0 : decide ((bt a0 0) ≤ 102) = false := decide_eq_false c7
          clear c7
          by_cases c16 : 65 ≤ (bt a0 0)
          · rw [if_pos c16] at H
            have c16b0 : decide (65 ≤ (bt a0 0)) = true := decide_eq_true c16
            clear c16
            by_cases c17 : (bt a0 0) ≤ 70
            · rw [if_pos c17] at H
              have c17b0 : decide ((bt a0 0) ≤ 70) = true := decide_eq_true c17
              clear c17
              by_cases c18 : 97 ≤ (bt a0 1)
              · rw [if_pos c18] at H
                have c18b0 : decide (97 ≤ (bt a0 1)) = true := decide_eq_true c18
                clear c18
                obtain rfl := Option.some.inj H
                have p3 : 0 ≤ (0 : Int) := (by omega)
                have q3 : 0 < a0.size := (by have : (0 : Int) < (a0.size : Int) := of_decide_eq_true (by first | (with_reducible assumption) | assumption); omega)
                have hx3 : ∀ h : 0 < a0.size, ((a0[0]'h).toNat : Int) = bt a0 0 := bt_at a0 0
                clear p3
                have qi3 : (0 < (a0.size : Int)) = True := eq_true (of_decide_eq_true (by first | (with_reducible assumption) | assumption))
                replace q3 := eq_true q3
                have p5 : 0 ≤ (1 : Int) := (by omega)
                have q5 : 1 < a0.size := (by have : (1 : Int) < (a0.size : Int) := of_decide_eq_true (by first | (with_reducible assumption) | assumption); omega)
                have hx5 : ∀ h : 1 < a0.size, ((a0[1]'h).toNat : Int) = bt a0 1 := bt_at a0 1
                clear p5
                have qi5 : (1 < (a0.size : Int)) = True := eq_true (of_decide_eq_true (by first | (with_reducible assumption) | assumption))
                replace q5 := eq_true q5
                go_enter Tryd.func9, Tryd.ntmps9
                go_wp2
                repeat (go_quiet (fail); try go_wp2)
                go_ret
                exact ⟨by first | rfl | (simp; done) | (simp [*]; done), by repeat (first | exact Drawn0.refl _ | apply Drawn0.step)⟩
              · rw [if_neg c18] at H
                have c18b0 : decide (97 ≤ (bt a0 1)) = false := decide_eq_false c18
                clear c18
                obtain rfl := Option.some.inj H
                have p3 : 0 ≤ (0 : Int) := (by omega)
                have q3 : 0 < a0.size := (by have : (0 : Int) < (a0.size : Int) := of_decide_eq_true (by first | (with_reducible assumption) | assumption); omega)
                have hx3 : ∀ h : 0 < a0.size, ((a0[0]'h).toNat : Int) = bt a0 0 := bt_at a0 0
                clear p3
                have qi3 : (0 < (a0.size : Int)) = True := eq_true (of_decide_eq_true (by first | (with_reducible assumption) | assumption))
                replace q3 := eq_true q3
                have p5 : 0 ≤ (1 : Int) := (by omega)
                have q5 : 1 < a0.size := (by have : (1 : Int) < (a0.size : Int) := of_decide_eq_true (by first | (with_reducible assumption) | assumption); omega)
                have hx5 : ∀ h : 1 < a0.size, ((a0[1]'h).toNat : Int) = bt a0 1 := bt_at a0 1
                clear p5
                have qi5 : (1 < (a0.size : Int)) = True := eq_true (of_decide_eq_true (by first | (with_reducible assumption) | assumption))
                replace q5 := eq_true q5
                go_enter Tryd.func9, Tryd.ntmps9
                go_wp2
                repeat (go_quiet (fail); try go_wp2)
                go_ret
                exact ⟨by first | rfl | (simp; done) | (simp [*]; done), by repeat (first | exact Drawn0.refl _ | apply Drawn0.step)⟩
            · rw [if_neg c17] at H
              have c17b0 : decide ((bt a0 0) ≤ 70) = false := decide_eq_false c17
              clear c17
              obtain rfl := Option.some.inj H
              have p3 : 0 ≤ (0 : Int) := (by omega)
              have q3 : 0 < a0.size := (by have : (0 : Int) < (a0.size : Int) := of_decide_eq_true (by first | (with_reducible assumption) | assumption); omega)
              have hx3 : ∀ h : 0 < a0.size, ((a0[0]'h).toNat : Int) = bt a0 0 := bt_at a0 0
              clear p3
              have qi3 : (0 < (a0.size : Int)) = True := eq_true (of_decide_eq_true (by first | (with_reducible assumption) | assumption))
              replace q3 := eq_true q3
              have p5 : 0 ≤ (1 : Int) := (by omega)
              have q5 : 1 < a0.size := (by have : (1 : Int) < (a0.size : Int) := of_decide_eq_true (by first | (with_reducible assumption) | assumption); omega)
              have hx5 : ∀ h : 1 < a0.size, ((a0[1]'h).toNat : Int) = bt a0 1 := bt_at a0 1
              clear p5
              have qi5 : (1 < (a0.size : Int)) = True := eq_true (of_decide_eq_true (by first | (with_reducible assumption) | assumption))
              replace q5 := eq_true q5
              go_enter Tryd.func9, Tryd.ntmps9
              go_wp2
              repeat (go_quiet (fail); try go_wp2)
              go_ret
              exact ⟨by first | rfl | (simp; done) | (simp [*]; done), by repeat (first | exact Drawn0.refl _ | apply Drawn0.step)⟩
          · rw [if_neg c16] at H
            have c16b0 : decide (65 ≤ (bt a0 0)) = false := decide_eq_false c16
            clear c16
            obtain rfl := Option.some.inj H
            have p3 : 0 ≤ (0 : Int) := (by omega)
            have q3 : 0 < a0.size := (by have : (0 : Int) < (a0.size : Int) := of_decide_eq_true (by first | (with_reducible assumption) | assumption); omega)
            have hx3 : ∀ h : 0 < a0.size, ((a0[0]'h).toNat : Int) = bt a0 0 := bt_at a0 0
            clear p3
            have qi3 : (0 < (a0.size : Int)) = True := eq_true (of_decide_eq_true (by first | (with_reducible assumption) | assumption))
            replace q3 := eq_true q3
            have p5 : 0 ≤ (1 : Int) := (by omega)
            have q5 : 1 < a0.size := (by have : (1 : Int) < (a0.size : Int) := of_decide_eq_true (by first | (with_reducible assumption) | assumption); omega)
            have hx5 : ∀ h : 1 < a0.size, ((a0[1]'h).toNat : Int) = bt a0 1 := bt_at a0 1
            clear p5
            have qi5 : (1 < (a0.size : Int)) = True := eq_true (of_decide_eq_true (by first | (with_reducible assumption) | assumption))
            replace q5 := eq_true q5
            go_enter Tryd.func9, Tryd.ntmps9
            go_wp2
            repeat (go_quiet (fail); try go_wp2)
            go_ret
            exact ⟨by first | rfl | (simp; done) | (simp [*]; done), by repeat (first | exact Drawn0.refl _ | apply Drawn0.step)⟩
      · rw [if_neg c6] at H
        have c6b0 : decide (97 ≤ (bt a0 0)) = false := decide_eq_false c6
        clear c6
        by_cases c19 : 65 ≤ (bt a0 0)
        · rw [if_pos c19] at H
          have c19b0 : decide (65 ≤ (bt a0 0)) = true := decide_eq_true c19
          clear c19
          by_cases c20 : (bt a0 0) ≤ 70
          · rw [if_pos c20] at H
            have c20b0 : decide ((bt a0 0) ≤ 70) = true := decide_eq_true c20
            clear c20
            by_cases c21 : 97 ≤ (bt a0 1)
            · rw [if_pos c21] at H
              have c21b0 : decide (97 ≤ (bt a0 1)) = true := decide_eq_true c21
              clear c21
              obtain rfl := Option.some.inj H
              have p3 : 0 ≤ (0 : Int) := (by omega)
              have q3 : 0 < a0.size := (by have : (0 : Int) < (a0.size : Int) := of_decide_eq_true (by first | (with_reducible assumption) | assumption); omega)
              have hx3 : ∀ h : 0 < a0.size, ((a0[0]'h).toNat : Int) = bt a0 0 := bt_at a0 0
              clear p3
              have qi3 : (0 < (a0.size : Int)) = True := eq_true (of_decide_eq_true (by first | (with_reducible assumption) | assumption))
              replace q3 := eq_true q3
              have p5 : 0 ≤ (1 : Int) := (by omega)
              have q5 : 1 < a0.size := (by have : (1 : Int) < (a0.size : Int) := of_decide_eq_true (by first | (with_reducible assumption) | assumption); omega)
              have hx5 : ∀ h : 1 < a0.size, ((a0[1]'h).toNat : Int) = bt a0 1 := bt_at a0 1
              clear p5
              have qi5 : (1 < (a0.size : Int)) = True := eq_true (of_decide_eq_true (by first | (with_reducible assumption) | assumption))
              replace q5 := eq_true q5
              go_enter Tryd.func9, Tryd.ntmps9
              go_wp2
              repeat (go_quiet (fail); try go_wp2)
              go_ret
              exact ⟨by first | rfl | (simp; done) | (simp [*]; done), by repeat (first | exact Drawn0.refl _ | apply Drawn0.step)⟩
            · rw [if_neg c21] at H
              have c21b0 : decide (97 ≤ (bt a0 1)) = false := decide_eq_false c21
              clear c21
              obtain rfl := Option.some.inj H
              have p3 : 0 ≤ (0 : Int) := (by omega)
              have q3 : 0 < a0.size := (by have : (0 : Int) < (a0.size : Int) := of_decide_eq_true (by first | (with_reducible assumption) | assumption); omega)
              have hx3 : ∀ h : 0 < a0.size, ((a0[0]'h).toNat : Int) = bt a0 0 := bt_at a0 0
              clear p3
              have qi3 : (0 < (a0.size : Int)) = True := eq_true (of_decide_eq_true (by first | (with_reducible assumption) | assumption))
              replace q3 := eq_true q3
              have p5 : 0 ≤ (1 : Int) := (by omega)
              have q5 : 1 < a0.size := (by have : (1 : Int) < (a0.size : Int) := of_decide_eq_true (by first | (with_reducible assumption) | assumption); omega)
              have hx5 : ∀ h : 1 < a0.size, ((a0[1]'h).toNat : Int) = bt a0 1 := bt_at a0 1
              clear p5
              have qi5 : (1 < (a0.size : Int)) = True := eq_true (of_decide_eq_true (by first | (with_reducible assumption) | assumption))
              replace q5 := eq_true q5
              go_enter Tryd.func9, Tryd.ntmps9
              go_wp2
              repeat (go_quiet (fail); try go_wp2)
              go_ret
              exact ⟨by first | rfl | (simp; done) | (simp [*]; done), by repeat (first | exact Drawn0.refl _ | apply Drawn0.step)⟩
          · rw [if_neg c20] at H
            have c20b0 : decide ((bt a0 0) ≤ 70) = false := decide_eq_false c20
            clear c20
            obtain rfl := Option.some.inj H
            have p3 : 0 ≤ (0 : Int) := (by omega)
            have q3 : 0 < a0.size := (by have : (0 : Int) < (a0.size : Int) := of_decide_eq_true (by first | (with_reducible assumption) | assumption); omega)
            have hx3 : ∀ h : 0 < a0.size, ((a0[0]'h).toNat : Int) = bt a0 0 := bt_at a0 0
            clear p3
            have qi3 : (0 < (a0.size : Int)) = True := eq_true (of_decide_eq_true (by first | (with_reducible assumption) | assumption))
            replace q3 := eq_true q3
            have p5 : 0 ≤ (1 : Int) := (by omega)
            have q5 : 1 < a0.size := (by have : (1 : Int) < (a0.size : Int) := of_decide_eq_true (by first | (with_reducible assumption) | assumption); omega)
            have hx5 : ∀ h : 1 < a0.size, ((a0[1]'h).toNat : Int) = bt a0 1 := bt_at a0 1
            clear p5
            have qi5 : (1 < (a0.size : Int)) = True := eq_true (of_decide_eq_true (by first | (with_reducible assumption) | assumption))
            replace q5 := eq_true q5
            go_enter Tryd.func9, Tryd.ntmps9
            go_wp2
            repeat (go_quiet (fail); try go_wp2)
            go_ret
            exact ⟨by first | rfl | (simp; done) | (simp [*]; done), by repeat (first | exact Drawn0.refl _ | apply Drawn0.step)⟩
        · rw [if_neg c19] at H
          have c19b0 : decide (65 ≤ (bt a0 0)) = false := decide_eq_false c19
          clear c19
          obtain rfl := Option.some.inj H
          have p3 : 0 ≤ (0 : Int) := (by omega)
          have q3 : 0 < a0.size := (by have : (0 : Int) < (a0.size : Int) := of_decide_eq_true (by first | (with_reducible assumption) | assumption); omega)
          have hx3 : ∀ h : 0 < a0.size, ((a0[0]'h).toNat : Int) = bt a0 0 := bt_at a0 0
          clear p3
          have qi3 : (0 < (a0.size : Int)) = True := eq_true (of_decide_eq_true (by first | (with_reducible assumption) | assumption))
          replace q3 := eq_true q3
          have p5 : 0 ≤ (1 : Int) := (by omega)
          have q5 : 1 < a0.size := (by have : (1 : Int) < (a0.size : Int) := of_decide_eq_true (by first | (with_reducible assumption) | assumption); omega)
          have hx5 : ∀ h : 1 < a0.size, ((a0[1]'h).toNat : Int) = bt a0 1 := bt_at a0 1
          clear p5
          have qi5 : (1 < (a0.size : Int)) = True := eq_true (of_decide_eq_true (by first | (with_reducible assumption) | assumption))
          replace q5 := eq_true q5
          go_enter Tryd.func9, Tryd.ntmps9
          go_wp2
          repeat (go_quiet (fail); try go_wp2)
          go_ret
          exact ⟨by first | rfl | (simp; done) | (simp [*]; done), by repeat (first | exact Drawn0.refl _ | apply Drawn0.step)⟩
    · rw [if_neg c4] at H
      exact absurd H (by simp)
  · rw [if_neg c2] at H
    exact absurd H (by simp)

end Go.Proofs.YtehcnjjkklogbaaDoor.PFnDigest
