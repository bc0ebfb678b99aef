-- PRINTED BY print.sh 35421559b90ae4d0a3588c463048766b98c2df88dd9212a6774a882060cdf62d: not written by this session
import Derived.Test.YtnlfmlamkkbjaaaFmtPFnNamex0
import Derived.Test.YtnlfmlamkkbjaaaFmtPFnNamex3
namespace Go.Proofs.YtnlfmlamkkbjaaaFmt.PFnName
open Go.RowKit Go.Proofs.YtnlfmlamkkbjaaaFmtW.PrintWords Go.Proofs.YtnlfmlamkkbjaaaFmtW.PrintLast Go.Proofs.YtnlfmlamkkbjaaaFmtW.PrintMore
attribute [local go_sem] max2_int min2_int max_two min_two max_three min_three max_four min_four   -- for this text's walks alone
set_option linter.unusedVariables false
set_option linter.unusedSimpArgs false

/-! ### spec_isNamed: function 19 -/
def spec_isNamed.f (a0 : Int) : Option (Bool) := if a0 ≥ 97 then (if a0 ≤ 122 then (some true) else (if a0 ≥ 65 then (if a0 ≤ 90 then (some true) else (if a0 ≥ 48 then (if a0 ≤ 57 then (some true) else (if a0 = 95 then (some true) else (if a0 = 36 then (some true) else (if a0 > 127 then (some true) else (some (a0 == 92)))))) else (if a0 = 95 then (some true) else (if a0 = 36 then (some true) else (if a0 > 127 then (some true) else (some (a0 == 92))))))) else (if a0 ≥ 48 then (if a0 ≤ 57 then (some true) else (if a0 = 95 then (some true) else (if a0 = 36 then (some true) else (if a0 > 127 then (some true) else (some (a0 == 92)))))) else (if a0 = 95 then (some true) else (if a0 = 36 then (some true) else (if a0 > 127 then (some true) else (some (a0 == 92)))))))) else (if a0 ≥ 65 then (if a0 ≤ 90 then (some true) else (if a0 ≥ 48 then (if a0 ≤ 57 then (some true) else (if a0 = 95 then (some true) else (if a0 = 36 then (some true) else (if a0 > 127 then (some true) else (some (a0 == 92)))))) else (if a0 = 95 then (some true) else (if a0 = 36 then (some true) else (if a0 > 127 then (some true) else (some (a0 == 92))))))) else (if a0 ≥ 48 then (if a0 ≤ 57 then (some true) else (if a0 = 95 then (some true) else (if a0 = 36 then (some true) else (if a0 > 127 then (some true) else (some (a0 == 92)))))) else (if a0 = 95 then (some true) else (if a0 = 36 then (some true) else (if a0 > 127 then (some true) else (some (a0 == 92)))))))
set_option maxHeartbeats 8000000 in
set_option maxRecDepth 100000 in
theorem spec_isNamed.calls (a0 : Int) (r : Bool) (w : World) (h : spec_isNamed.f a0 = some r) :
    Calls Tryf.prog 19 #[.int .u8 a0] w fun e w' => e = .returned (.bool r) ∧ Drawn0 w w' := by
  have H : (if a0 ≥ 97 then (if a0 ≤ 122 then (some true) else (if a0 ≥ 65 then (if a0 ≤ 90 then (some true) else (if a0 ≥ 48 then (if a0 ≤ 57 then (some true) else (if a0 = 95 then (some true) else (if a0 = 36 then (some true) else (if a0 > 127 then (some true) else (some (a0 == 92)))))) else (if a0 = 95 then (some true) else (if a0 = 36 then (some true) else (if a0 > 127 then (some true) else (some (a0 == 92))))))) else (if a0 ≥ 48 then (if a0 ≤ 57 then (some true) else (if a0 = 95 then (some true) else (if a0 = 36 then (some true) else (if a0 > 127 then (some true) else (some (a0 == 92)))))) else (if a0 = 95 then (some true) else (if a0 = 36 then (some true) else (if a0 > 127 then (some true) else (some (a0 == 92)))))))) else (if a0 ≥ 65 then (if a0 ≤ 90 then (some true) else (if a0 ≥ 48 then (if a0 ≤ 57 then (some true) else (if a0 = 95 then (some true) else (if a0 = 36 then (some true) else (if a0 > 127 then (some true) else (some (a0 == 92)))))) else (if a0 = 95 then (some true) else (if a0 = 36 then (some true) else (if a0 > 127 then (some true) else (some (a0 == 92))))))) else (if a0 ≥ 48 then (if a0 ≤ 57 then (some true) else (if a0 = 95 then (some true) else (if a0 = 36 then (some true) else (if a0 > 127 then (some true) else (some (a0 == 92)))))) else (if a0 = 95 then (some true) else (if a0 = 36 then (some true) else (if a0 > 127 then (some true) else (some (a0 == 92)))))))) = some r := h
  clear h
  by_cases c2 : a0 ≥ 97
  · rw [if_pos c2] at H
    have c2b0 : decide (97 ≤ a0) = true := decide_eq_true c2
    clear c2
    by_cases c3 : a0 ≤ 122
    · rw [if_pos c3] at H
      have c3b0 : decide (a0 ≤ 122) = true := decide_eq_true c3
      clear c3
      obtain rfl := Option.some.inj H
      go_enter Tryf.func19, Tryf.ntmps19
      go_wp2
      go_ret
      exact ⟨by first | rfl | (simp; done) | (simp [*]; done), by repeat (first | exact Drawn0.refl _ | apply Drawn0.step)⟩
    · rw [if_neg c3] at H
      have c3b0 : decide (a0 ≤ 122) = false := decide_eq_false c3
      clear c3
      by_cases c4 : a0 ≥ 65
      · rw [if_pos c4] at H
        have c4b0 : decide (65 ≤ a0) = true := decide_eq_true c4
        clear c4
        by_cases c5 : a0 ≤ 90
        · rw [if_pos c5] at H
          have c5b0 : decide (a0 ≤ 90) = true := decide_eq_true c5
          clear c5
          obtain rfl := Option.some.inj H
          go_enter Tryf.func19, Tryf.ntmps19
          go_wp2
          go_ret
          exact ⟨by first | rfl | (simp; done) | (simp [*]; done), by repeat (first | exact Drawn0.refl _ | apply Drawn0.step)⟩
        · rw [if_neg c5] at H
          have c5b0 : decide (a0 ≤ 90) = false := decide_eq_false c5
          clear c5
          by_cases c6 : a0 ≥ 48
          · rw [if_pos c6] at H
            have c6b0 : decide (48 ≤ a0) = true := decide_eq_true c6
            clear c6
            by_cases c7 : a0 ≤ 57
            · rw [if_pos c7] at H
              have c7b0 : decide (a0 ≤ 57) = true := decide_eq_true c7
              clear c7
              obtain rfl := Option.some.inj H
              go_enter Tryf.func19, Tryf.ntmps19
              go_wp2
              go_ret
              exact ⟨by first | rfl | (simp; done) | (simp [*]; done), by repeat (first | exact Drawn0.refl _ | apply Drawn0.step)⟩
            · rw [if_neg c7] at H
              have c7b0 : decide (a0 ≤ 57) = false := decide_eq_false c7
              clear c7
              by_cases c8 : a0 = 95
              · rw [if_pos c8] at H
                have c8b0 : (a0 == 95) = true := beq_iff_eq.mpr c8
                have c8b1 : (a0 != 95) = false := bne_eq_false_iff_eq.mpr c8
                clear c8
                obtain rfl := Option.some.inj H
                go_enter Tryf.func19, Tryf.ntmps19
                go_wp2
                go_ret
                exact ⟨by first | rfl | (simp; done) | (simp [*]; done), by repeat (first | exact Drawn0.refl _ | apply Drawn0.step)⟩
              · rw [if_neg c8] at H
                have c8b0 : (a0 == 95) = false := beq_eq_false_iff_ne.mpr c8
                have c8b1 : (a0 != 95) = true := bne_iff_ne.mpr c8
                by_cases c9 : a0 = 36
                · rw [if_pos c9] at H
                  have c9b0 : (a0 == 36) = true := beq_iff_eq.mpr c9
                  have c9b1 : (a0 != 36) = false := bne_eq_false_iff_eq.mpr c9
                  clear c9
                  obtain rfl := Option.some.inj H
                  go_enter Tryf.func19, Tryf.ntmps19
                  go_wp2
                  go_ret
                  exact ⟨by first | rfl | (simp; done) | (simp [*]; done), by repeat (first | exact Drawn0.refl _ | apply Drawn0.step)⟩
                · rw [if_neg c9] at H
                  have c9b0 : (a0 == 36) = false := beq_eq_false_iff_ne.mpr c9
                  have c9b1 : (a0 != 36) = true := bne_iff_ne.mpr c9
                  by_cases c10 : a0 > 127
                  · rw [if_pos c10] at H
                    have c10b0 : decide (127 < a0) = true := decide_eq_true c10
                    clear c10
                    obtain rfl := Option.some.inj H
                    go_enter Tryf.func19, Tryf.ntmps19
                    go_wp2
                    go_ret
                    exact ⟨by first | rfl | (simp; done) | (simp [*]; done), by repeat (first | exact Drawn0.refl _ | apply Drawn0.step)⟩
                  · rw [if_neg c10] at H
                    have c10b0 : decide (127 < a0) = false := decide_eq_false c10
                    clear c10
                    obtain rfl := Option.some.inj H
                    go_enter Tryf.func19, Tryf.ntmps19
                    go_wp2
                    go_ret
                    exact ⟨by first | rfl | (simp; done) | (simp [*]; done), by repeat (first | exact Drawn0.refl _ | apply Drawn0.step)⟩
          · rw [if_neg c6] at H
            have c6b0 : decide (48 ≤ a0) = false := decide_eq_false c6
            clear c6
            by_cases c11 : a0 = 95
            · rw [if_pos c11] at H
              have c11b0 : (a0 == 95) = true := beq_iff_eq.mpr c11
              have c11b1 : (a0 != 95) = false := bne_eq_false_iff_eq.mpr c11
              clear c11
              obtain rfl := Option.some.inj H
              go_enter Tryf.func19, Tryf.ntmps19
              go_wp2
              go_ret
              exact ⟨by first | rfl | (simp; done) | (simp [*]; done), by repeat (first | exact Drawn0.refl _ | apply Drawn0.step)⟩
            · rw [if_neg c11] at H
              have c11b0 : (a0 == 95) = false := beq_eq_false_iff_ne.mpr c11
              have c11b1 : (a0 != 95) = true := bne_iff_ne.mpr c11
              by_cases c12 : a0 = 36
              · rw [if_pos c12] at H
                have c12b0 : (a0 == 36) = true := beq_iff_eq.mpr c12
                have c12b1 : (a0 != 36) = false := bne_eq_false_iff_eq.mpr c12
                clear c12
                obtain rfl := Option.some.inj H
                go_enter Tryf.func19, Tryf.ntmps19
                go_wp2
                go_ret
                exact ⟨by first | rfl | (simp; done) | (simp [*]; done), by repeat (first | exact Drawn0.refl _ | apply Drawn0.step)⟩
              · rw [if_neg c12] at H
                have c12b0 : (a0 == 36) = false := beq_eq_false_iff_ne.mpr c12
                have c12b1 : (a0 != 36) = true := bne_iff_ne.mpr c12
                by_cases c13 : a0 > 127
                · rw [if_pos c13] at H
                  have c13b0 : decide (127 < a0) = true := decide_eq_true c13
                  clear c13
                  obtain rfl := Option.some.inj H
                  go_enter Tryf.func19, Tryf.ntmps19
                  go_wp2
                  go_ret
                  exact ⟨by first | rfl | (simp; done) | (simp [*]; done), by repeat (first | exact Drawn0.refl _ | apply Drawn0.step)⟩
                · rw [if_neg c13] at H
                  have c13b0 : decide (127 < a0) = false := decide_eq_false c13
                  clear c13
                  obtain rfl := Option.some.inj H
                  go_enter Tryf.func19, Tryf.ntmps19
                  go_wp2
                  go_ret
                  exact ⟨by first | rfl | (simp; done) | (simp [*]; done), by repeat (first | exact Drawn0.refl _ | apply Drawn0.step)⟩
      · rw [if_neg c4] at H
        have c4b0 : decide (65 ≤ a0) = false := decide_eq_false c4
        clear c4
        by_cases c14 : a0 ≥ 48
        · rw [if_pos c14] at H
          have c14b0 : decide (48 ≤ a0) = true := decide_eq_true c14
          clear c14
          by_cases c15 : a0 ≤ 57
          · rw [if_pos c15] at H
            have c15b0 : decide (a0 ≤ 57) = true := decide_eq_true c15
            clear c15
            obtain rfl := Option.some.inj H
            go_enter Tryf.func19, Tryf.ntmps19
            go_wp2
            go_ret
            exact ⟨by first | rfl | (simp; done) | (simp [*]; done), by repeat (first | exact Drawn0.refl _ | apply Drawn0.step)⟩
          · rw [if_neg c15] at H
            have c15b0 : decide (a0 ≤ 57) = false := decide_eq_false c15
            clear c15
            by_cases c16 : a0 = 95
            · rw [if_pos c16] at H
              have c16b0 : (a0 == 95) = true := beq_iff_eq.mpr c16
              have c16b1 : (a0 != 95) = false := bne_eq_false_iff_eq.mpr c16
              clear c16
              obtain rfl := Option.some.inj H
              go_enter Tryf.func19, Tryf.ntmps19
              go_wp2
              go_ret
              exact ⟨by first | rfl | (simp; done) | (simp [*]; done), by repeat (first | exact Drawn0.refl _ | apply Drawn0.step)⟩
            · rw [if_neg c16] at H
              have c16b0 : (a0 == 95) = false := beq_eq_false_iff_ne.mpr c16
              have c16b1 : (a0 != 95) = true := bne_iff_ne.mpr c16
              by_cases c17 : a0 = 36
              · rw [if_pos c17] at H
                have c17b0 : (a0 == 36) = true := beq_iff_eq.mpr c17
                have c17b1 : (a0 != 36) = false := bne_eq_false_iff_eq.mpr c17
                clear c17
                obtain rfl := Option.some.inj H
                go_enter Tryf.func19, Tryf.ntmps19
                go_wp2
                go_ret
                exact ⟨by first | rfl | (simp; done) | (simp [*]; done), by repeat (first | exact Drawn0.refl _ | apply Drawn0.step)⟩
              · rw [if_neg c17] at H
                have c17b0 : (a0 == 36) = false := beq_eq_false_iff_ne.mpr c17
                have c17b1 : (a0 != 36) = true := bne_iff_ne.mpr c17
                by_cases c18 : a0 > 127
                · rw [if_pos c18] at H
                  have c18b0 : decide (127 < a0) = true := decide_eq_true c18
                  clear c18
                  obtain rfl := Option.some.inj H
                  go_enter Tryf.func19, Tryf.ntmps19
                  go_wp2
                  go_ret
                  exact ⟨by first | rfl | (simp; done) | (simp [*]; done), by repeat (first | exact Drawn0.refl _ | apply Drawn0.step)⟩
                · rw [if_neg c18] at H
                  have c18b0 : decide (127 < a0) = false := decide_eq_false c18
                  clear c18
                  obtain rfl := Option.some.inj H
                  go_enter Tryf.func19, Tryf.ntmps19
                  go_wp2
                  go_ret
                  exact ⟨by first | rfl | (simp; done) | (simp [*]; done), by repeat (first | exact Drawn0.refl _ | apply Drawn0.step)⟩
        · rw [if_neg c14] at H
          have c14b0 : decide (48 ≤ a0) = false := decide_eq_false c14
          clear c14
          by_cases c19 : a0 = 95
          · rw [if_pos c19] at H
            have c19b0 : (a0 == 95) = true := beq_iff_eq.mpr c19
            have c19b1 : (a0 != 95) = false := bne_eq_false_iff_eq.mpr c19
            clear c19
            obtain rfl := Option.some.inj H
            go_enter Tryf.func19, Tryf.ntmps19
            go_wp2
            go_ret
            exact ⟨by first | rfl | (simp; done) | (simp [*]; done), by repeat (first | exact Drawn0.refl _ | apply Drawn0.step)⟩
          · rw [if_neg c19] at H
            have c19b0 : (a0 == 95) = false := beq_eq_false_iff_ne.mpr c19
            have c19b1 : (a0 != 95) = true := bne_iff_ne.mpr c19
            by_cases c20 : a0 = 36
            · rw [if_pos c20] at H
              have c20b0 : (a0 == 36) = true := beq_iff_eq.mpr c20
              have c20b1 : (a0 != 36) = false := bne_eq_false_iff_eq.mpr c20
              clear c20
              obtain rfl := Option.some.inj H
              go_enter Tryf.func19, Tryf.ntmps19
              go_wp2
              go_ret
              exact ⟨by first | rfl | (simp; done) | (simp [*]; done), by repeat (first | exact Drawn0.refl _ | apply Drawn0.step)⟩
            · rw [if_neg c20] at H
              have c20b0 : (a0 == 36) = false := beq_eq_false_iff_ne.mpr c20
              have c20b1 : (a0 != 36) = true := bne_iff_ne.mpr c20
              by_cases c21 : a0 > 127
              · rw [if_pos c21] at H
                have c21b0 : decide (127 < a0) = true := decide_eq_true c21
                clear c21
                obtain rfl := Option.some.inj H
                go_enter Tryf.func19, Tryf.ntmps19
                go_wp2
                go_ret
                exact ⟨by first | rfl | (simp; done) | (simp [*]; done), by repeat (first | exact Drawn0.refl _ | apply Drawn0.step)⟩
              · rw [if_neg c21] at H
                have c21b0 : decide (127 < a0) = false := decide_eq_false c21
                clear c21
                obtain rfl := Option.some.inj H
                go_enter Tryf.func19, Tryf.ntmps19
                go_wp2
                go_ret
                exact ⟨by first | rfl | (simp; done) | (simp [*]; done), by repeat (first | exact Drawn0.refl _ | apply Drawn0.step)⟩
  · rw [if_neg c2] at H
    have c2b0 : decide (97 ≤ a0) = false := decide_eq_false c2
    clear c2
    by_cases c22 : a0 ≥ 65
    · rw [if_pos c22] at H
      have c22b0 : decide (65 ≤ a0) = true := decide_eq_true c22
      clear c22
      by_cases c23 : a0 ≤ 90
      · rw [if_pos c23] at H
        have c23b0 : decide (a0 ≤ 90) = true := decide_eq_true c23
        clear c23
        obtain rfl := Option.some.inj H
        go_enter Tryf.func19, Tryf.ntmps19
        go_wp2
        go_ret
        exact ⟨by first | rfl | (simp; done) | (simp [*]; done), by repeat (first | exact Drawn0.refl _ | apply Drawn0.step)⟩
      · rw [if_neg c23] at H
        have c23b0 : decide (a0 ≤ 90) = false := decide_eq_false c23
        clear c23
        by_cases c24 : a0 ≥ 48
        · rw [if_pos c24] at H
          have c24b0 : decide (48 ≤ a0) = true := decide_eq_true c24
          clear c24
          by_cases c25 : a0 ≤ 57
          · rw [if_pos c25] at H
            have c25b0 : decide (a0 ≤ 57) = true := decide_eq_true c25
            clear c25
            obtain rfl := Option.some.inj H
            go_enter Tryf.func19, Tryf.ntmps19
            go_wp2
            go_ret
            exact ⟨by first | rfl | (simp; done) | (simp [*]; done), by repeat (first | exact Drawn0.refl _ | apply Drawn0.step)⟩
          · rw [if_neg c25] at H
            have c25b0 : decide (a0 ≤ 57) = false := decide_eq_false c25
            clear c25
            by_cases c26 : a0 = 95
            · rw [if_pos c26] at H
              have c26b0 : (a0 == 95) = true := beq_iff_eq.mpr c26
              have c26b1 : (a0 != 95) = false := bne_eq_false_iff_eq.mpr c26
              clear c26
              obtain rfl := Option.some.inj H
              go_enter Tryf.func19, Tryf.ntmps19
              go_wp2
              go_ret
              exact ⟨by first | rfl | (simp; done) | (simp [*]; done), by repeat (first | exact Drawn0.refl _ | apply Drawn0.step)⟩
            · rw [if_neg c26] at H
              have c26b0 : (a0 == 95) = false := beq_eq_false_iff_ne.mpr c26
              have c26b1 : (a0 != 95) = true := bne_iff_ne.mpr c26
              by_cases c27 : a0 = 36
              · rw [if_pos c27] at H
                have c27b0 : (a0 == 36) = true := beq_iff_eq.mpr c27
                have c27b1 : (a0 != 36) = false := bne_eq_false_iff_eq.mpr c27
                clear c27
                obtain rfl := Option.some.inj H
                go_enter Tryf.func19, Tryf.ntmps19
                go_wp2
                go_ret
                exact ⟨by first | rfl | (simp; done) | (simp [*]; done), by repeat (first | exact Drawn0.refl _ | apply Drawn0.step)⟩
              · rw [if_neg c27] at H
                have c27b0 : (a0 == 36) = false := beq_eq_false_iff_ne.mpr c27
                have c27b1 : (a0 != 36) = true := bne_iff_ne.mpr c27
                by_cases c28 : a0 > 127
                · rw [if_pos c28] at H
                  have c28b0 : decide (127 < a0) = true := decide_eq_true c28
                  clear c28
                  obtain rfl := Option.some.inj H
                  go_enter Tryf.func19, Tryf.ntmps19
                  go_wp2
                  go_ret
                  exact ⟨by first | rfl | (simp; done) | (simp [*]; done), by repeat (first | exact Drawn0.refl _ | apply Drawn0.step)⟩
                · rw [if_neg c28] at H
                  have c28b0 : decide (127 < a0) = false := decide_eq_false c28
                  clear c28
                  obtain rfl := Option.some.inj H
                  go_enter Tryf.func19, Tryf.ntmps19
                  go_wp2
                  go_ret
                  exact ⟨by first | rfl | (simp; done) | (simp [*]; done), by repeat (first | exact Drawn0.refl _ | apply Drawn0.step)⟩
        · rw [if_neg c24] at H
          have c24b0 : decide (48 ≤ a0) = false := decide_eq_false c24
          clear c24
          by_cases c29 : a0 = 95
          · rw [if_pos c29] at H
            have c29b0 : (a0 == 95) = true := beq_iff_eq.mpr c29
            have c29b1 : (a0 != 95) = false := bne_eq_false_iff_eq.mpr c29
            clear c29
            obtain rfl := Option.some.inj H
            go_enter Tryf.func19, Tryf.ntmps19
            go_wp2
            go_ret
            exact ⟨by first | rfl | (simp; done) | (simp [*]; done), by repeat (first | exact Drawn0.refl _ | apply Drawn0.step)⟩
          · rw [if_neg c29] at H
            have c29b0 : (a0 == 95) = false := beq_eq_false_iff_ne.mpr c29
            have c29b1 : (a0 != 95) = true := bne_iff_ne.mpr c29
            by_cases c30 : a0 = 36
            · rw [if_pos c30] at H
              have c30b0 : (a0 == 36) = true := beq_iff_eq.mpr c30
              have c30b1 : (a0 != 36) = false := bne_eq_false_iff_eq.mpr c30
              clear c30
              obtain rfl := Option.some.inj H
              go_enter Tryf.func19, Tryf.ntmps19
              go_wp2
              go_ret
              exact ⟨by first | rfl | (simp; done) | (simp [*]; done), by repeat (first | exact Drawn0.refl _ | apply Drawn0.step)⟩
            · rw [if_neg c30] at H
              have c30b0 : (a0 == 36) = false := beq_eq_false_iff_ne.mpr c30
              have c30b1 : (a0 != 36) = true := bne_iff_ne.mpr c30
              by_cases c31 : a0 > 127
              · rw [if_pos c31] at H
                have c31b0 : decide (127 < a0) = true := decide_eq_true c31
                clear c31
                obtain rfl := Option.some.inj H
                go_enter Tryf.func19, Tryf.ntmps19
                go_wp2
                go_ret
                exact ⟨by first | rfl | (simp; done) | (simp [*]; done), by repeat (first | exact Drawn0.refl _ | apply Drawn0.step)⟩
              · rw [if_neg c31] at H
                have c31b0 : decide (127 < a0) = false := decide_eq_false c31
                clear c31
                obtain rfl := Option.some.inj H
                go_enter Tryf.func19, Tryf.ntmps19
                go_wp2
                go_ret
                exact ⟨by first | rfl | (simp; done) | (simp [*]; done), by repeat (first | exact Drawn0.refl _ | apply Drawn0.step)⟩
    · rw [if_neg c22] at H
      have c22b0 : decide (65 ≤ a0) = false := decide_eq_false c22
      clear c22
      by_cases c32 : a0 ≥ 48
      · rw [if_pos c32] at H
        have c32b0 : decide (48 ≤ a0) = true := decide_eq_true c32
        clear c32
        by_cases c33 : a0 ≤ 57
        · rw [if_pos c33] at H
          have c33b0 : decide (a0 ≤ 57) = true := decide_eq_true c33
          clear c33
          obtain rfl := Option.some.inj H
          go_enter Tryf.func19, Tryf.ntmps19
          go_wp2
          go_ret
          exact ⟨by first | rfl | (simp; done) | (simp [*]; done), by repeat (first | exact Drawn0.refl _ | apply Drawn0.step)⟩
        · rw [if_neg c33] at H
          have c33b0 : decide (a0 ≤ 57) = false := decide_eq_false c33
          clear c33
          by_cases c34 : a0 = 95
          · rw [if_pos c34] at H
            have c34b0 : (a0 == 95) = true := beq_iff_eq.mpr c34
            have c34b1 : (a0 != 95) = false := bne_eq_false_iff_eq.mpr c34
            clear c34
            obtain rfl := Option.some.inj H
            go_enter Tryf.func19, Tryf.ntmps19
            go_wp2
            go_ret
            exact ⟨by first | rfl | (simp; done) | (simp [*]; done), by repeat (first | exact Drawn0.refl _ | apply Drawn0.step)⟩
          · rw [if_neg c34] at H
            have c34b0 : (a0 == 95) = false := beq_eq_false_iff_ne.mpr c34
            have c34b1 : (a0 != 95) = true := bne_iff_ne.mpr c34
            by_cases c35 : a0 = 36
            · rw [if_pos c35] at H
              have c35b0 : (a0 == 36) = true := beq_iff_eq.mpr c35
              have c35b1 : (a0 != 36) = false := bne_eq_false_iff_eq.mpr c35
              clear c35
              obtain rfl := Option.some.inj H
              go_enter Tryf.func19, Tryf.ntmps19
              go_wp2
              go_ret
              exact ⟨by first | rfl | (simp; done) | (simp [*]; done), by repeat (first | exact Drawn0.refl _ | apply Drawn0.step)⟩
            · rw [if_neg c35] at H
              have c35b0 : (a0 == 36) = false := beq_eq_false_iff_ne.mpr c35
              have c35b1 : (a0 != 36) = true := bne_iff_ne.mpr c35
              by_cases c36 : a0 > 127
              · rw [if_pos c36] at H
                have c36b0 : decide (127 < a0) = true := decide_eq_true c36
                clear c36
                obtain rfl := Option.some.inj H
                go_enter Tryf.func19, Tryf.ntmps19
                go_wp2
                go_ret
                exact ⟨by first | rfl | (simp; done) | (simp [*]; done), by repeat (first | exact Drawn0.refl _ | apply Drawn0.step)⟩
              · rw [if_neg c36] at H
                have c36b0 : decide (127 < a0) = false := decide_eq_false c36
                clear c36
                obtain rfl := Option.some.inj H
                go_enter Tryf.func19, Tryf.ntmps19
                go_wp2
                go_ret
                exact ⟨by first | rfl | (simp; done) | (simp [*]; done), by repeat (first | exact Drawn0.refl _ | apply Drawn0.step)⟩
      · rw [if_neg c32] at H
        have c32b0 : decide (48 ≤ a0) = false := decide_eq_false c32
        clear c32
        by_cases c37 : a0 = 95
        · rw [if_pos c37] at H
          have c37b0 : (a0 == 95) = true := beq_iff_eq.mpr c37
          have c37b1 : (a0 != 95) = false := bne_eq_false_iff_eq.mpr c37
          clear c37
          obtain rfl := Option.some.inj H
          go_enter Tryf.func19, Tryf.ntmps19
          go_wp2
          go_ret
          exact ⟨by first | rfl | (simp; done) | (simp [*]; done), by repeat (first | exact Drawn0.refl _ | apply Drawn0.step)⟩
        · rw [if_neg c37] at H
          have c37b0 : (a0 == 95) = false := beq_eq_false_iff_ne.mpr c37
          have c37b1 : (a0 != 95) = true := bne_iff_ne.mpr c37
          by_cases c38 : a0 = 36
          · rw [if_pos c38] at H
            have c38b0 : (a0 == 36) = true := beq_iff_eq.mpr c38
            have c38b1 : (a0 != 36) = false := bne_eq_false_iff_eq.mpr c38
            clear c38
            obtain rfl := Option.some.inj H
            go_enter Tryf.func19, Tryf.ntmps19
            go_wp2
            go_ret
            exact ⟨by first | rfl | (simp; done) | (simp [*]; done), by repeat (first | exact Drawn0.refl _ | apply Drawn0.step)⟩
          · rw [if_neg c38] at H
            have c38b0 : (a0 == 36) = false := beq_eq_false_iff_ne.mpr c38
            have c38b1 : (a0 != 36) = true := bne_iff_ne.mpr c38
            by_cases c39 : a0 > 127
            · rw [if_pos c39] at H
              have c39b0 : decide (127 < a0) = true := decide_eq_true c39
              clear c39
              obtain rfl := Option.some.inj H
              go_enter Tryf.func19, Tryf.ntmps19
              go_wp2
              go_ret
              exact ⟨by first | rfl | (simp; done) | (simp [*]; done), by repeat (first | exact Drawn0.refl _ | apply Drawn0.step)⟩
            · rw [if_neg c39] at H
              have c39b0 : decide (127 < a0) = false := decide_eq_false c39
              clear c39
              obtain rfl := Option.some.inj H
              go_enter Tryf.func19, Tryf.ntmps19
              go_wp2
              go_ret
              exact ⟨by first | rfl | (simp; done) | (simp [*]; done), by repeat (first | exact Drawn0.refl _ | apply Drawn0.step)⟩

/-- A state of type 37 at block g of W; what its slices lead to came in by w0. -/
def IsS37 (w0 W : World) (g : Nat) (f0 : ByteArray) (f1 : Bool) : Prop := W.heap[g]? = some (.cells #[.string f0, .bool f1] 37 (0, 0)) ∧ w0.heap.size ≤ g
theorem IsS37.grown {w0 W : World} {g : Nat} {f0 : ByteArray} {f1 : Bool} {W1 : World} {row : Option Nat} (h : IsS37 w0 W g f0 f1) (hw : W.grownBy W1 row) (hne : some g ≠ row) : IsS37 w0 W1 g f0 f1 := by
  obtain ⟨hb, hg⟩ := h
  exact ⟨blk_grown hb hw hne, hg⟩
theorem IsS37.own_neN {w0 W : World} {g : Nat} {f0 : ByteArray} {f1 : Bool} {α : Type} {d : Kd α} {e : Nat} {base : Nat} {ok : Nat → Prop} {v : Value} {xs : List α} (h : IsS37 w0 W g f0 f1) (ho : Kd.N d e W base ok v xs) (ht : e ≠ 37) : some g ≠ v.ownBlock := by
  obtain ⟨hb, hg⟩ := h
  exact Kd.N_ne ho hb ht
theorem IsS37.fresh {w0 W : World} {g : Nat} {f0 : ByteArray} {f1 : Bool} (h : IsS37 w0 W g f0 f1) : ∀ k, W.heap.size ≤ k → k ≠ g := by
  obtain ⟨hb, hg⟩ := h
  exact Kd.freshB hb
theorem IsS37.kept {w0 W : World} {g : Nat} {f0 : ByteArray} {f1 : Bool} {W1 : World} {S : Nat → Prop} (h : IsS37 w0 W g f0 f1) (hk : Kept W W1 S) (hne : ¬ S g) : IsS37 w0 W1 g f0 f1 := by
  obtain ⟨hb, hg⟩ := h
  exact ⟨blk_kept hb hk hne, hg⟩
theorem IsS37.below {w0 W : World} {g : Nat} {f0 : ByteArray} {f1 : Bool} {W1 : World} (h : IsS37 w0 W g f0 f1) (hw : Below W.heap.size W W1) : IsS37 w0 W1 g f0 f1 := h.grown (grown_of_below hw none) (by simp)
theorem IsS37.alloc {w0 W : World} {g : Nat} {f0 : ByteArray} {f1 : Bool} (h : IsS37 w0 W g f0 f1) (o : Obj) : IsS37 w0 (W.alloc o) g f0 f1 := h.below (below_alloc (Below.refl _ _) o)
theorem IsS37.drewN {w0 W : World} {g : Nat} {f0 : ByteArray} {f1 : Bool} (h : IsS37 w0 W g f0 f1) (m : Nat) : IsS37 w0 (W.drewN m) g f0 f1 := h
theorem IsS37.drew {w0 W : World} {g : Nat} {f0 : ByteArray} {f1 : Bool} (h : IsS37 w0 W g f0 f1) : IsS37 w0 W.drew g f0 f1 := h
theorem IsS37.at_ {w0 W : World} {g : Nat} {f0 : ByteArray} {f1 : Bool} {w' : World} {m : Nat} (hq : W.drewN m = w') (h : IsS37 w0 W g f0 f1) : IsS37 w0 w' g f0 f1 := by subst hq; exact IsS37.drewN h m
theorem IsS37.apart {w0 W : World} {g : Nat} {f0 : ByteArray} {f1 : Bool} {α : Type} {d : Kd α} {e : Nat} {base : Nat} {ok : Nat → Prop} {v : Value} {xs : List α} (h : IsS37 w0 W g f0 f1) (ho : d.R e W base ok v xs) (ht : ∀ q, q ∈ e :: d.E → q ≠ 37) : d.R e W base (fun k => ok k ∧ k ≠ g) v xs := by
  obtain ⟨hb, hg⟩ := h
  exact Kd.R_types ho hb ht
theorem IsS37.own_ne {w0 W : World} {g : Nat} {f0 : ByteArray} {f1 : Bool} {α : Type} {d : Kd α} {e : Nat} {base : Nat} {ok : Nat → Prop} {v : Value} {xs : List α} (h : IsS37 w0 W g f0 f1) (ho : d.R e W base ok v xs) (ht : e ≠ 37) : some g ≠ v.ownBlock := by
  obtain ⟨hb, hg⟩ := h
  exact Kd.R_ne ho hb ht
theorem IsS37.apartQ {w0 W : World} {g : Nat} {f0 : ByteArray} {f1 : Bool} {α : Type} {d : Kd α} {e : Nat} {base : Nat} {ok : Nat → Prop} {v : Value} {xs : List α} (h : IsS37 w0 W g f0 f1) (ho : d.Q e W base ok v xs) (ht : ∀ q, q ∈ e :: d.E → q ≠ 37) : d.Q e W base (fun k => ok k ∧ k ≠ g) v xs := by
  obtain ⟨hb, hg⟩ := h
  exact Kd.Q_types ho hb ht
theorem IsS37.own_neQ {w0 W : World} {g : Nat} {f0 : ByteArray} {f1 : Bool} {α : Type} {d : Kd α} {e : Nat} {base : Nat} {ok : Nat → Prop} {v : Value} {xs : List α} (h : IsS37 w0 W g f0 f1) (ho : d.Q e W base ok v xs) (ht : e ≠ 37) : some g ≠ v.ownBlock := by
  obtain ⟨hb, hg⟩ := h
  exact Kd.Q_ne ho hb ht
theorem IsS37.apartS {w0 W : World} {g : Nat} {f0 : ByteArray} {f1 : Bool} {α : Type} {d : Kd α} {e : Nat} {base : Nat} {ok : Nat → Prop} {v : Value} {xs : List α} (h : IsS37 w0 W g f0 f1) (ho : d.S e W base ok v xs) (ht : ∀ q, q ∈ e :: d.E → q ≠ 37) : d.S e W base (fun k => ok k ∧ k ≠ g) v xs := by
  obtain ⟨hb, hg⟩ := h
  exact Kd.S_types ho hb ht
theorem IsS37.own_neS {w0 W : World} {g : Nat} {f0 : ByteArray} {f1 : Bool} {α : Type} {d : Kd α} {e : Nat} {base : Nat} {ok : Nat → Prop} {v : Value} {xs : List α} (h : IsS37 w0 W g f0 f1) (ho : d.S e W base ok v xs) (ht : e ≠ 37) : some g ≠ v.ownBlock := by
  obtain ⟨hb, hg⟩ := h
  exact Kd.S_ne ho hb ht
theorem IsS37.lt {w0 W : World} {g : Nat} {f0 : ByteArray} {f1 : Bool} (h : IsS37 w0 W g f0 f1) : g < W.heap.size := by
  obtain ⟨hb, hg⟩ := h
  exact blk_lt hb
theorem IsS37.ge {w0 W : World} {g : Nat} {f0 : ByteArray} {f1 : Bool} (h : IsS37 w0 W g f0 f1) : w0.heap.size ≤ g := by
  obtain ⟨hb, hg⟩ := h
  exact hg
theorem IsS37.ne_blk {w0 W : World} {g : Nat} {f0 : ByteArray} {f1 : Bool} {a : Nat} {cs : Array Value} {t : TypeId} {fr : Nat × Nat} (h : IsS37 w0 W g f0 f1) (hb2 : W.heap[a]? = some (.cells cs t fr)) (ht : t ≠ 37) : g ≠ a := by
  obtain ⟨hb, hg⟩ := h
  rintro rfl
  rw [hb] at hb2
  injection hb2 with hb2
  injection hb2 with _ ht2
  exact ht ht2.symm
theorem IsS37.far {w0 W : World} {g : Nat} {f0 : ByteArray} {f1 : Bool} {p : Addr} (h : IsS37 w0 W g f0 f1) (hne : g ≠ p.block) (u : Value) : IsS37 w0 (W.setCell p u) g f0 f1 := by
  obtain ⟨hb, hg⟩ := h
  exact ⟨blk_far hb hne u, hg⟩
theorem cellS37_0 {W : World} {g : Nat} {f0 : ByteArray} {f1 : Bool} (h : W.heap[g]? = some (.cells #[.string f0, .bool f1] 37 (0, 0))) : W.cell? ⟨g, 0, none⟩ = some (.string f0) := (blk_cell h 0).trans rfl
theorem IsS37.set_0 {w0 W : World} {g : Nat} {f0 : ByteArray} {f1 : Bool} (h : IsS37 w0 W g f0 f1) (x : ByteArray) : IsS37 w0 (W.setCell ⟨g, 0, none⟩ (.string x)) g x f1 := by
  obtain ⟨hb, hg⟩ := h
  exact ⟨by simpa using blk_set hb 0 (.string x), hg⟩
theorem cellS37_1 {W : World} {g : Nat} {f0 : ByteArray} {f1 : Bool} (h : W.heap[g]? = some (.cells #[.string f0, .bool f1] 37 (0, 0))) : W.cell? ⟨g, 1, none⟩ = some (.bool f1) := (blk_cell h 1).trans rfl
theorem IsS37.set_1 {w0 W : World} {g : Nat} {f0 : ByteArray} {f1 : Bool} (h : IsS37 w0 W g f0 f1) (x : Bool) : IsS37 w0 (W.setCell ⟨g, 1, none⟩ (.bool x)) g f0 x := by
  obtain ⟨hb, hg⟩ := h
  exact ⟨by simpa using blk_set hb 1 (.bool x), hg⟩
theorem IsS37.new (w0 W : World) (f0 : ByteArray) (f1 : Bool) (hB : Below w0.heap.size w0 W) : IsS37 w0 (W.alloc (.cells #[.string f0, .bool f1] 37)) W.heap.size f0 f1 := ⟨by simpa using heap_alloc_new W _, hB.size⟩

/-! ### spec_reader_fail: function 20 -/
def spec_reader_fail.f (s0_0 : ByteArray) (s0_1 : Bool) : Option (ByteArray × Bool) := some ((⟨#[]⟩ : ByteArray), true)
set_option maxHeartbeats 8000000 in
set_option maxRecDepth 100000 in
theorem spec_reader_fail.calls (g : Nat) (s0_0 : ByteArray) (s0_1 : Bool) (r1 : ByteArray) (r2 : Bool) (w0 w : World) (hI : IsS37 w0 w g s0_0 s0_1) (hB : Below w0.heap.size w0 w) (h : spec_reader_fail.f s0_0 s0_1 = some (r1, r2)) :
    Calls Tryf.prog 20 #[.pointer (some ⟨g, 0, none⟩)] w fun e w' => e = .returned (.tuple #[]) ∧ IsS37 w0 w' g r1 r2 ∧ Below w0.heap.size w0 w' ∧ KeepBut w w' g none := by
  have HI0 := Aside0.mk hI
  have HK := Aside0.mk (KeepBut.refl w g none)
  have HL := Aside0.mk hB.size
  clear hI
  have HW0 := Aside0.mk hB.size
  have HB := Aside0.mk hB
  clear hB
  have H : (some ((⟨#[]⟩ : ByteArray), true)) = some (r1, r2) := h
  clear h
  simp only [Option.some.injEq, Prod.mk.injEq] at H
  obtain ⟨rfl, rfl⟩ := H
  obtain ⟨HGz2, hgz2⟩ := HI0.out
  have hcz2_0 := cellS37_0 HGz2
  have hcz2_1 := cellS37_1 HGz2
  have hfz2_0 := blk_frozen HGz2 0
  have hfz2_1 := blk_frozen HGz2 1
  clear HGz2 hgz2
  go_enter Tryf.func20, Tryf.ntmps20
  go_wp2
  first | go_end0 | ((try simp only [Exit.inBlock, Exit.then]); refine bodyPost_ret (results_none rfl _ _ _) rfl ?_)
  exact ⟨by first | rfl | (simp [errW_none, errW_some] <;> rfl) | (simp [*, errW_none, errW_some] <;> rfl), by repeat (first | (with_reducible first | exact HI0.out | apply IsS37.alloc | apply IsS37.drewN | apply IsS37.drew | apply IsS37.set_0 | apply IsS37.set_1) | exact HI0.out), by repeat (first | (with_reducible first | exact HB.out | apply below_alloc | apply pw_below_drewN | apply below_drew1 | refine below_set ?_ (IsS37.ge HI0.out)) | exact HB.out), by repeat (first | (with_reducible first | exact HK.out | apply KeepBut.set_ | apply keep_drewN | apply keep_drew | apply keep_alloc) | exact HK.out)⟩

/-! ### spec_Units: function 9 -/
def spec_Units.l0 : Nat → List Int → List Int → Int → Int → Option (List Int)
  | 0, _, _, _, _ => none
  | k + 1, x3, x13, x14, x15 => if x15 < x14 then (if 0 ≤ x15 then (if x15 < (x13.length : Int) then (if (rd x13 x15) < 65536 then (if x3.length < 70368744177664 then (spec_Units.l0 k (x3 ++ [IntKind.u16.wrap (rd x13 x15)]) x13 x14 (wrap64 (x15 + 1))) else (none)) else ((some (([IntKind.u16.wrap (wrap64 (55296 + (wrap64 (Int.tdiv (wrap64 ((rd x13 x15) - 65536)) 1024)))), IntKind.u16.wrap (wrap64 (56320 + (Int.tmod (wrap64 ((rd x13 x15) - 65536)) 1024)))] : List Int) : List Int)).bind fun y121 => (if x3.length + y121.length < 70368744177664 then (spec_Units.l0 k (x3 ++ y121) x13 x14 (wrap64 (x15 + 1))) else (none)))) else (none)) else (none)) else (some x3)
def spec_Units.f (k : Nat) (a0 : ByteArray) : Option (List Int) := (spec_Points.f k a0).bind fun bt113 => (spec_Units.l0 k ([] : List Int) bt113.1 (bt113.1.length : Int) 0)
theorem spec_Units.mono_l : ∀ k, (∀ y0 y1 y2 y3, LeO (spec_Units.l0 k y0 y1 y2 y3) (spec_Units.l0 (k + 1) y0 y1 y2 y3))
  | 0 => fun _ _ _ _ r h => by simp [spec_Units.l0] at h
  | k + 1 => by
    have ih0 := spec_Units.mono_l k
    · intro y0 y1 y2 y3
      unfold spec_Units.l0
      repeat' first
      | (with_reducible exact ih0 _ _ _ _)
      | (with_reducible exact spec_Points.mono _ _)
      | (with_reducible exact LeO.refl _)
      | (with_reducible exact LeO.none _)
      | (with_reducible refine LeO.ite ?_ ?_)
      | (with_reducible refine LeO.bind ?_ (fun _ => ?_))
      | exact ih0 _ _ _ _
      | exact spec_Points.mono _ _
      | exact LeO.none _
      | refine LeO.ite ?_ ?_
      | refine LeO.bind ?_ (fun _ => ?_)
theorem spec_Units.mono : ∀ a0 k, LeO (spec_Units.f k a0) (spec_Units.f (k + 1) a0) := by
  intro a0 k
  have ih0 := spec_Units.mono_l k
  unfold spec_Units.f
  repeat' first
      | (with_reducible exact ih0 _ _ _ _)
      | (with_reducible exact spec_Points.mono _ _)
      | (with_reducible exact LeO.refl _)
      | (with_reducible exact LeO.none _)
      | (with_reducible refine LeO.ite ?_ ?_)
      | (with_reducible refine LeO.bind ?_ (fun _ => ?_))
      | exact ih0 _ _ _ _
      | exact spec_Points.mono _ _
      | exact LeO.none _
      | refine LeO.ite ?_ ?_
      | refine LeO.bind ?_ (fun _ => ?_)
set_option maxHeartbeats 8000000 in
set_option maxRecDepth 100000 in
theorem spec_Units.calls (k : Nat) (a0 : ByteArray) (r : List Int) (w : World) (h : spec_Units.f k a0 = some r) :
    Calls Tryf.prog 9 #[.string a0] w fun e w' => ∃ v0_ : Value, e = .returned (v0_) ∧ Kd.R (Kd.int .u16) 39 w' w.heap.size (fun _ => True) v0_ r ∧ Below w.heap.size w w' := by
  have HB := Aside0.mk (Below.refl w.heap.size w)
  have H : ((spec_Points.f k a0).bind fun bt113 => (spec_Units.l0 k ([] : List Int) bt113.1 (bt113.1.length : Int) 0)) = some r := h
  clear h
  replace H := Option.bind_eq_some_iff.mp H
  obtain ⟨⟨t113, t114⟩, A20, H⟩ := H
  replace H : (spec_Units.l0 k ([] : List Int) t113 (t113.length : Int) 0) = some r := H
  have A2 := Aside0.mk A20
  clear A20
  have H' := Aside0.mk H
  clear H
  go_enter Tryf.func9, Tryf.ntmps9
  go_wp2_with (first | ((with_reducible refine gate_callee (f := 16) rfl ?_); refine goesL_ (some 10) rfl rfl Tryf.func16 (by kernel_rfl) rfl #[.string a0] rfl (by (try simp only [List.map_toArray, List.map_cons, List.map_nil]); first | done | rfl | (simp only [List.length_drop, List.length_take]; rfl)) ?_; (with_reducible refine (spec_Points.calls k a0 t113 t114 _ A2.out).mono ?_); rintro e w3 ⟨v115, rfl, ho0, hb⟩; refine ⟨_, rfl, ?_⟩; have n0_ := Aside0.mk (Kd.R_lower ho0 (below_size (by repeat (first | (with_reducible first | exact HB.out | apply below_alloc | apply pw_below_drewN | apply below_drew1) | exact HB.out)))); have n1_ := Aside0.mk (below_step (by repeat (first | (with_reducible first | exact HB.out | apply below_alloc | apply pw_below_drewN | apply below_drew1) | exact HB.out)) hb); clear HB; have HO116 := n0_; have HB := n1_; clear n0_ n1_; (try clear hb); (try clear hb2); (try clear hk); (try clear hi); (try clear ho0); obtain ⟨Ao4, co4, eo4⟩ := Kd.R_slice HO116.out; subst eo4))
  go_loopg [3, 15] k (fun kq v3 v15 w' => ∃ (x3_1 : List Int) (x15_1 : Int), v15 = .int .i64 x15_1 ∧ Aside0 (spec_Units.l0 kq x3_1 t113 (t113.length : Int) x15_1 = some r) ∧ Aside0 (kq ≤ k) ∧ Aside0 (Kd.R (Kd.int .u16) 39 w' w.heap.size (fun _ => True) v3 x3_1) ∧ Aside0 (Kd.R (Kd.int .i64) 3 w' w.heap.size (fun _ => True) (.slice Ao4 t113.length co4) t113) ∧ Aside0 (Below w.heap.size w w'))
  case atStart => exact ⟨(([] : List Int)), (0), (by first | rfl | (simp; done) | (simp [*]; done)), H', ⟨Nat.le_refl _⟩, ⟨by first | exact Kd.R_nil _ _ _ _ _ | exact Kd.N_nil _ _ _ _ _ | exact Kd.V_nil _ _ _ _ _ | exact Kd.Q_nil _ _ _ _ _ | exact Kd.S_nil _ _ _ _ _⟩, ⟨by (with_reducible repeat (first | apply Kd.R_alloc | apply Kd.R_drewN | apply Kd.R_drew)); exact HO116.out⟩, ⟨by repeat (first | (with_reducible first | exact HB.out | apply below_alloc | apply pw_below_drewN | apply below_drew1) | exact HB.out)⟩⟩
  case round =>
    clear H'
    try clear c1
    try clear p2
    obtain ⟨x3_1, x15_1, rfl, HA, HK1, HO_3, HO_13, HB⟩ := hrel
    cases gk with
    | zero => exact absurd HA.out (by simp [spec_Units.l0])
    | succ k1 =>
      have H := HA.out
      clear HA
      simp only [spec_Units.l0] at H
      by_cases c5 : x15_1 < (t113.length : Int)
      · rw [if_pos c5] at H
        have c5b0 : decide (x15_1 < (t113.length : Int)) = true := decide_eq_true c5
        clear c5
        by_cases c6 : 0 ≤ x15_1
        · rw [if_pos c6] at H
          have c6b0 : decide (0 ≤ x15_1) = true := decide_eq_true c6
          clear c6
          by_cases c7 : x15_1 < (t113.length : Int)
          · rw [if_pos c7] at H
            have c7b0 : decide (x15_1 < (t113.length : Int)) = true := decide_eq_true c7
            clear c7
            by_cases c8 : (rd t113 x15_1) < 65536
            · rw [if_pos c8] at H
              have c8b0 : decide ((rd t113 x15_1) < 65536) = true := decide_eq_true c8
              clear c8
              by_cases c9 : x3_1.length < 70368744177664
              · rw [if_pos c9] at H
                have LMc9 := Aside0.mk c9
                clear c9
                obtain ⟨y118, hy118⟩ : ∃ y_ : List Int, y_ = (x3_1 ++ [IntKind.u16.wrap (rd t113 x15_1)]) := ⟨_, rfl⟩
                replace H : (spec_Units.l0 k1 y118 t113 (t113.length : Int) (wrap64 (x15_1 + 1))) = some r := by first | (rw [hy118]; with_reducible exact H) | (have H2_ := (Option.bind_some _ _).symm.trans H; rw [hy118]; with_reducible exact H2_) | (have H2_ := (Option.bind_some _ _).symm.trans H; with_reducible exact H2_) | with_reducible exact H | (rw [hy118]; exact H) | exact H
                have Ny118 := Aside0.mk hy118
                clear hy118
                have H' := Aside0.mk H
                clear H
                have p117 : 0 ≤ (x15_1 : Int) := of_decide_eq_true (by first | (with_reducible assumption) | assumption)
                have q117 : x15_1 < (t113.length : Int) := of_decide_eq_true (by first | (with_reducible assumption) | assumption)
                obtain ⟨ad117, e117, hx117_0⟩ := Kd.at_int (Kd.R_reads' HO_13.out).2.2 x15_1 p117 q117
                cases e117
                replace p117 := eq_true p117
                replace q117 := eq_true q117
                go_wp2_with (first | ((with_reducible refine gate_builtin (b := .append) (xs := #[.tmp 21, .tmp 24]) rfl ?_); at_builtin; refine Kd.R_append (Kd.int .u16) (w0 := w) w.heap.size rfl (.tmp 21) (.tmp 24) 24 39 (.int .u16 0) 2 rfl Tryf.underlying24 info39 rfl (by decide) (by omega) u3 x3_1 (IntKind.u16.wrap (rd t113 x15_1)) [.int .u16 (IntKind.u16.wrap (rd t113 x15_1))] (fun _ => True) (fun _ => False) rfl rfl ?aP (fun _ hk => hk.elim) ?aF ?aO ?aB ?aS ?aL ?_; (case aP => exact rfl); (case aB => exact (by repeat (first | (with_reducible first | exact HB.out | apply below_alloc | apply pw_below_drewN | apply below_drew1) | exact HB.out))); (case aF => exact (fun _ _ => trivial)); (case aO => exact (by (with_reducible repeat (first | apply Kd.R_alloc | apply Kd.R_drewN | apply Kd.R_drew)); exact HO_3.out)); (case aS => exact (below_size (by repeat (first | (with_reducible first | exact HB.out | apply below_alloc | apply pw_below_drewN | apply below_drew1) | exact HB.out)))); (case aL => have := LMc9.out; omega); intro v119 w10 ho hb hg hat; rw [← Ny118.out] at ho; have n0_ := Aside0.mk (Kd.R_over' (by (with_reducible repeat (first | apply Kd.R_alloc | apply Kd.R_drewN | apply Kd.R_drew)); exact HO_13.out) (Kd.R_typed (by (with_reducible repeat (first | apply Kd.R_alloc | apply Kd.R_drewN | apply Kd.R_drew)); exact HO_3.out)) (by decide) hg); have n1_ := Aside0.mk (hb); have n2_ := Aside0.mk (ho); clear HO_13; clear HB; clear HO_3; have HO_13 := n0_; have HB := n1_; have HO120 := n2_; clear n0_ n1_ n2_; clear ho hb hg hat))
                go_roundg k1
                case measure => have := HK1.out; omega
                case rel => exact ⟨(y118), (wrap64 (x15_1 + 1)), (by first | rfl | (simp; done) | (simp [*]; done)), H', ⟨by have := HK1.out; omega⟩, ⟨by (with_reducible repeat (first | apply Kd.R_alloc | apply Kd.R_drewN | apply Kd.R_drew)); exact HO120.out⟩, ⟨by (with_reducible repeat (first | apply Kd.R_alloc | apply Kd.R_drewN | apply Kd.R_drew)); exact HO_13.out⟩, ⟨by repeat (first | (with_reducible first | exact HB.out | apply below_alloc | apply pw_below_drewN | apply below_drew1) | exact HB.out)⟩⟩
              · rw [if_neg c9] at H
                exact absurd H (by simp)
            · rw [if_neg c8] at H
              have c8b0 : decide ((rd t113 x15_1) < 65536) = false := decide_eq_false c8
              clear c8
              obtain ⟨y121, hy121⟩ : ∃ y_ : List Int, y_ = (([IntKind.u16.wrap (wrap64 (55296 + (wrap64 (Int.tdiv (wrap64 ((rd t113 x15_1) - 65536)) 1024)))), IntKind.u16.wrap (wrap64 (56320 + (Int.tmod (wrap64 ((rd t113 x15_1) - 65536)) 1024)))] : List Int)) := ⟨_, rfl⟩
              replace H : (if x3_1.length + y121.length < 70368744177664 then (spec_Units.l0 k1 (x3_1 ++ y121) t113 (t113.length : Int) (wrap64 (x15_1 + 1))) else (none)) = some r := by first | (rw [hy121]; with_reducible exact H) | (have H2_ := (Option.bind_some _ _).symm.trans H; rw [hy121]; with_reducible exact H2_) | (have H2_ := (Option.bind_some _ _).symm.trans H; with_reducible exact H2_) | with_reducible exact H | (rw [hy121]; exact H) | exact H
              have Ny121 := Aside0.mk hy121
              clear hy121
              by_cases c11 : x3_1.length + y121.length < 70368744177664
              · rw [if_pos c11] at H
                have LMc11 := Aside0.mk c11
                clear c11
                obtain ⟨y124, hy124⟩ : ∃ y_ : List Int, y_ = (x3_1 ++ y121) := ⟨_, rfl⟩
                replace H : (spec_Units.l0 k1 y124 t113 (t113.length : Int) (wrap64 (x15_1 + 1))) = some r := by first | (rw [hy124]; with_reducible exact H) | (have H2_ := (Option.bind_some _ _).symm.trans H; rw [hy124]; with_reducible exact H2_) | (have H2_ := (Option.bind_some _ _).symm.trans H; with_reducible exact H2_) | with_reducible exact H | (rw [hy124]; exact H) | exact H
                have Ny124 := Aside0.mk hy124
                clear hy124
                have H' := Aside0.mk H
                clear H
                have p117 : 0 ≤ (x15_1 : Int) := of_decide_eq_true (by first | (with_reducible assumption) | assumption)
                have q117 : x15_1 < (t113.length : Int) := of_decide_eq_true (by first | (with_reducible assumption) | assumption)
                obtain ⟨ad117, e117, hx117_0⟩ := Kd.at_int (Kd.R_reads' HO_13.out).2.2 x15_1 p117 q117
                cases e117
                replace p117 := eq_true p117
                replace q117 := eq_true q117
                go_wp2_with (first | ((with_reducible refine gate_dst (N := 37) rfl ?_); refine Kd.R_lit (Kd.int .u16) _ 39 ?hg (N := 37) ?hd (xs := ([IntKind.u16.wrap (wrap64 (55296 + (wrap64 (Int.tdiv (wrap64 ((rd t113 x15_1) - 65536)) 1024)))), IntKind.u16.wrap (wrap64 (56320 + (Int.tmod (wrap64 ((rd t113 x15_1) - 65536)) 1024)))] : List Int)) (inner := [.int .u16 (IntKind.u16.wrap (wrap64 (55296 + (wrap64 (Int.tdiv (wrap64 ((rd t113 x15_1) - 65536)) 1024))))), .int .u16 (IntKind.u16.wrap (wrap64 (56320 + (Int.tmod (wrap64 ((rd t113 x15_1) - 65536)) 1024))))]) (ok := fun _ => True) (okp := fun _ => True) ?hr ?hp (fun _ hk => hk) trivial (Below.refl _ _) (Nat.le_refl _) (by simp) ?_; (case hd => rfl); (case hg => rfl); (case hr => first | (go_simp; done) | (go_simp; rfl)); (case hp => exact (Reps.one (show Kd.M (Kd.int .u16) _ _ _ (IntKind.u16.wrap (wrap64 (55296 + (wrap64 (Int.tdiv (wrap64 ((rd t113 x15_1) - 65536)) 1024))))) [.int .u16 (IntKind.u16.wrap (wrap64 (55296 + (wrap64 (Int.tdiv (wrap64 ((rd t113 x15_1) - 65536)) 1024)))))] from rfl) (Reps.one (show Kd.M (Kd.int .u16) _ _ _ (IntKind.u16.wrap (wrap64 (56320 + (Int.tmod (wrap64 ((rd t113 x15_1) - 65536)) 1024)))) [.int .u16 (IntKind.u16.wrap (wrap64 (56320 + (Int.tmod (wrap64 ((rd t113 x15_1) - 65536)) 1024))))] from rfl) (Reps.none _ _)))); intro v122 w12 ho13 hb hg_ hnew_; clear hg_ hnew_; (first | rw [← Ny121.out] at ho13 | (simp only [Int.reduceToNat] at ho13; rw [← Ny121.out] at ho13)); have n0_ := Aside0.mk (Kd.R_elder' (by (with_reducible repeat (first | apply Kd.R_alloc | apply Kd.R_drewN | apply Kd.R_drew)); exact HO_3.out) (Kd.R_base ho13) hb); have n1_ := Aside0.mk (Kd.R_below (by (with_reducible repeat (first | apply Kd.R_alloc | apply Kd.R_drewN | apply Kd.R_drew)); exact HO_13.out) hb); have n2_ := Aside0.mk (Kd.R_lower (Kd.R_new' ho13 (Kd.R_lt (by (with_reducible repeat (first | apply Kd.R_alloc | apply Kd.R_drewN | apply Kd.R_drew)); exact HO_3.out))) (below_size (by repeat (first | (with_reducible first | exact HB.out | apply below_alloc | apply pw_below_drewN | apply below_drew1) | exact HB.out)))); have n3_ := Aside0.mk (below_step (by repeat (first | (with_reducible first | exact HB.out | apply below_alloc | apply pw_below_drewN | apply below_drew1) | exact HB.out)) hb); clear HO_3; clear HO_13; clear HB; have HO_3 := n0_; have HO_13 := n1_; have HO123 := n2_; have HB := n3_; clear n0_ n1_ n2_ n3_; clear hb ho13; obtain ⟨Ao15, co15, eo15⟩ := Kd.R_slice HO123.out; subst eo15) | ((with_reducible refine gate_builtin (b := .append) (xs := #[.tmp 26, .tmp 37]) rfl ?_); at_builtin; refine Kd.R_append_rows (Kd.int .u16) (w0 := w) w.heap.size rfl (.tmp 26) (.tmp 37) 24 39 (.int .u16 0) 2 rfl Tryf.underlying24 info39 rfl (by decide) (by omega) u3 x3_1 y121 _ _ _ (fun k_ => some k_ ≠ (.slice Ao15 y121.length co15 : Value).ownBlock) (fun _ => False) rfl rfl ?aO ?aR (fun _ _ h => h) (fun _ h => h.elim) ?aF ?aB ?aS ?aL ?_; (case aR => repeat (first | exact (Kd.R_reads' HO123.out).2.2 | (with_reducible refine Kd.C_alloc ?_ _) | (with_reducible refine Kd.C_drewN ?_ _) | (with_reducible refine Kd.C_drew ?_))); (case aB => exact (by repeat (first | (with_reducible first | exact HB.out | apply below_alloc | apply pw_below_drewN | apply below_drew1) | exact HB.out))); (case aF => exact (fun k_ hk => Kd.fresh' (Kd.R_lt (by (with_reducible repeat (first | apply Kd.R_alloc | apply Kd.R_drewN | apply Kd.R_drew)); exact HO123.out)) k_ hk)); (case aO => exact (by (with_reducible repeat (first | apply Kd.R_alloc | apply Kd.R_drewN | apply Kd.R_drew)); exact Kd.R_mono HO_3.out (fun _ hk => hk.2))); (case aS => exact (below_size (by repeat (first | (with_reducible first | exact HB.out | apply below_alloc | apply pw_below_drewN | apply below_drew1) | exact HB.out)))); (case aL => have := LMc11.out; omega); intro v125 w14 ho hb hg hat; rw [← Ny124.out] at ho; have n0_ := Aside0.mk (Kd.R_over' (by (with_reducible repeat (first | apply Kd.R_alloc | apply Kd.R_drewN | apply Kd.R_drew)); exact HO_13.out) (Kd.R_typed (by (with_reducible repeat (first | apply Kd.R_alloc | apply Kd.R_drewN | apply Kd.R_drew)); exact HO_3.out)) (by decide) hg); have n1_ := Aside0.mk (Kd.R_after (ok := (fun _ => True)) (by (with_reducible repeat (first | apply Kd.R_alloc | apply Kd.R_drewN | apply Kd.R_drew)); exact HO123.out) hg hat); have n2_ := Aside0.mk (hb); have n3_ := Aside0.mk (ho); clear HO_13; clear HO123; clear HB; clear HO_3; have HO_13 := n0_; have HO123 := n1_; have HB := n2_; have HO126 := n3_; clear n0_ n1_ n2_ n3_; clear ho hb hg hat))
                go_roundg k1
                case measure => have := HK1.out; omega
                case rel => exact ⟨(y124), (wrap64 (x15_1 + 1)), (by first | rfl | (simp; done) | (simp [*]; done)), H', ⟨by have := HK1.out; omega⟩, ⟨by (with_reducible repeat (first | apply Kd.R_alloc | apply Kd.R_drewN | apply Kd.R_drew)); exact Kd.R_mono HO126.out (fun _ hk => trivial)⟩, ⟨by (with_reducible repeat (first | apply Kd.R_alloc | apply Kd.R_drewN | apply Kd.R_drew)); exact HO_13.out⟩, ⟨by repeat (first | (with_reducible first | exact HB.out | apply below_alloc | apply pw_below_drewN | apply below_drew1) | exact HB.out)⟩⟩
              · rw [if_neg c11] at H
                exact absurd H (by simp)
          · rw [if_neg c7] at H
            exact absurd H (by simp)
        · rw [if_neg c6] at H
          exact absurd H (by simp)
      · rw [if_neg c5] at H
        have c5b0 : decide (x15_1 < (t113.length : Int)) = false := decide_eq_false c5
        clear c5
        obtain rfl := Option.some.inj H
        go_wp2
        go_ret
        exact ⟨_, by first | rfl | (simp [errW_none, errW_some] <;> rfl) | (simp [*, errW_none, errW_some] <;> rfl), by (with_reducible repeat (first | apply Kd.R_alloc | apply Kd.R_drewN | apply Kd.R_drew)); exact HO_3.out, by repeat (first | (with_reducible first | exact HB.out | apply below_alloc | apply pw_below_drewN | apply below_drew1) | exact HB.out)⟩

/-! ### spec_put: function 28 -/
def spec_put.f (l0 : List Int) (a1 : Int) : Option (List Int) := if a1 < 128 then (if l0.length < 140737488355328 then (some (l0 ++ [(a1) % 256])) else (none)) else (if a1 < 2048 then ((some (([(wrap64 (192 + (wrap64 (Int.tdiv a1 64)))) % 256, (wrap64 (128 + (Int.tmod a1 64))) % 256] : List Int) : List Int)).bind fun y130 => (if l0.length + y130.length < 140737488355328 then (some (l0 ++ y130)) else (none))) else (if a1 < 65536 then ((some (([(wrap64 (224 + (wrap64 (Int.tdiv a1 4096)))) % 256, (wrap64 (128 + (Int.tmod (wrap64 (Int.tdiv a1 64)) 64))) % 256, (wrap64 (128 + (Int.tmod a1 64))) % 256] : List Int) : List Int)).bind fun y136 => (if l0.length + y136.length < 140737488355328 then (some (l0 ++ y136)) else (none))) else ((some (([(wrap64 (240 + (wrap64 (Int.tdiv a1 262144)))) % 256, (wrap64 (128 + (Int.tmod (wrap64 (Int.tdiv a1 4096)) 64))) % 256, (wrap64 (128 + (Int.tmod (wrap64 (Int.tdiv a1 64)) 64))) % 256, (wrap64 (128 + (Int.tmod a1 64))) % 256] : List Int) : List Int)).bind fun y142 => (if l0.length + y142.length < 140737488355328 then (some (l0 ++ y142)) else (none)))))
set_option maxHeartbeats 8000000 in
set_option maxRecDepth 100000 in
theorem spec_put.calls (P0_ : Nat → Prop) (u9000_ : Value) (l0 : List Int) (a1 : Int) (r : List Int) (w0 w : World) (hB : Below w0.heap.size w0 w) (ho0 : Kd.R (Kd.int .u8) 5 w w0.heap.size P0_ u9000_ l0) (h : spec_put.f l0 a1 = some r) :
    Calls Tryf.prog 28 #[u9000_, .int .i64 a1] w fun e w' => ∃ v0_ : Value, e = .returned (v0_) ∧ Kd.R (Kd.int .u8) 5 w' w0.heap.size (fun k_ => (P0_ k_ ∨ w.heap.size ≤ k_)) v0_ r ∧ Below w0.heap.size w0 w' ∧ Kept w w' (fun k_ => P0_ k_) := by
  have HO0 := Aside0.mk (show Kd.R (Kd.int .u8) 5 w w0.heap.size (fun k_ => (P0_ k_ ∨ w.heap.size ≤ k_)) u9000_ l0 from Kd.R_mono ho0 (fun k_ hk => (.inl hk)))
  have HK := Aside0.mk (Kept.refl w (fun k_ => P0_ k_))
  have HW0 := Aside0.mk hB.size
  have HB := Aside0.mk hB
  clear hB
  have H : (if a1 < 128 then (if l0.length < 140737488355328 then (some (l0 ++ [(a1) % 256])) else (none)) else (if a1 < 2048 then ((some (([(wrap64 (192 + (wrap64 (Int.tdiv a1 64)))) % 256, (wrap64 (128 + (Int.tmod a1 64))) % 256] : List Int) : List Int)).bind fun y130 => (if l0.length + y130.length < 140737488355328 then (some (l0 ++ y130)) else (none))) else (if a1 < 65536 then ((some (([(wrap64 (224 + (wrap64 (Int.tdiv a1 4096)))) % 256, (wrap64 (128 + (Int.tmod (wrap64 (Int.tdiv a1 64)) 64))) % 256, (wrap64 (128 + (Int.tmod a1 64))) % 256] : List Int) : List Int)).bind fun y136 => (if l0.length + y136.length < 140737488355328 then (some (l0 ++ y136)) else (none))) else ((some (([(wrap64 (240 + (wrap64 (Int.tdiv a1 262144)))) % 256, (wrap64 (128 + (Int.tmod (wrap64 (Int.tdiv a1 4096)) 64))) % 256, (wrap64 (128 + (Int.tmod (wrap64 (Int.tdiv a1 64)) 64))) % 256, (wrap64 (128 + (Int.tmod a1 64))) % 256] : List Int) : List Int)).bind fun y142 => (if l0.length + y142.length < 140737488355328 then (some (l0 ++ y142)) else (none)))))) = some r := h
  clear h
  by_cases c3 : a1 < 128
  · rw [if_pos c3] at H
    have c3b0 : decide (a1 < 128) = true := decide_eq_true c3
    clear c3
    by_cases c4 : l0.length < 140737488355328
    · rw [if_pos c4] at H
      have LMc4 := Aside0.mk c4
      clear c4
      obtain ⟨y127, hy127⟩ : ∃ y_ : List Int, y_ = (l0 ++ [(a1) % 256]) := ⟨_, rfl⟩
      replace H : (some y127) = some r := by first | (rw [hy127]; with_reducible exact H) | (have H2_ := (Option.bind_some _ _).symm.trans H; rw [hy127]; with_reducible exact H2_) | (have H2_ := (Option.bind_some _ _).symm.trans H; with_reducible exact H2_) | with_reducible exact H | (rw [hy127]; exact H) | exact H
      have Ny127 := Aside0.mk hy127
      clear hy127
      obtain rfl := Option.some.inj H
      go_enter Tryf.func28, Tryf.ntmps28
      go_wp2_with (first | ((with_reducible refine gate_builtin (b := .append) (xs := #[.tmp 8, .tmp 11]) rfl ?_); at_builtin; refine Kd.R_append (Kd.int .u8) (w0 := w0) w0.heap.size rfl (.tmp 8) (.tmp 11) 31 5 (.int .u8 0) 1 rfl Tryf.underlying31 info5 rfl (by decide) (by omega) u9000_ l0 ((a1) % 256) [.int .u8 ((a1) % 256)] (fun k_ => (P0_ k_ ∨ w.heap.size ≤ k_)) (fun _ => False) rfl rfl ?aP (fun _ hk => hk.elim) ?aF ?aO ?aB ?aS ?aL ?_; (case aP => exact rfl); (case aB => exact (by repeat (first | (with_reducible first | exact HB.out | apply below_alloc | apply pw_below_drewN | apply below_drew1) | exact HB.out))); (case aF => exact (fun k_ hk => (.inr (Nat.le_trans (by first | exact HK.out.1 | exact (show Kept w _ (fun k_ => P0_ k_) from by repeat (first | (with_reducible first | exact HK.out | apply Kept.alloc | apply Kept.drewN | apply Kept.drew) | exact HK.out)).1) hk)))); (case aO => exact (by (with_reducible repeat (first | apply Kd.R_alloc | apply Kd.R_drewN | apply Kd.R_drew)); exact HO0.out)); (case aS => exact (below_size (by repeat (first | (with_reducible first | exact HB.out | apply below_alloc | apply pw_below_drewN | apply below_drew1) | exact HB.out)))); (case aL => have := LMc4.out; omega); intro v128 w5 ho hb hg hat; rw [← Ny127.out] at ho; have n0_ := Aside0.mk (hb); have n1_ := Aside0.mk (Kept.of_grown (S := (fun k_ => P0_ k_)) hg (by repeat (first | (with_reducible first | exact HK.out | apply Kept.alloc | apply Kept.drewN | apply Kept.drew) | exact HK.out)) (fun k_ e_ => (HO0.out.1 k_ e_))); have n2_ := Aside0.mk (ho); clear HB; clear HK; clear HO0; have HB := n0_; have HK := n1_; have HO129 := n2_; clear n0_ n1_ n2_; clear ho hb hg hat))
      go_ret
      exact ⟨_, by first | rfl | (simp [errW_none, errW_some] <;> rfl) | (simp [*, errW_none, errW_some] <;> rfl), by (with_reducible repeat (first | apply Kd.R_alloc | apply Kd.R_drewN | apply Kd.R_drew)); exact HO129.out, by repeat (first | (with_reducible first | exact HB.out | apply below_alloc | apply pw_below_drewN | apply below_drew1) | exact HB.out), by repeat (first | (with_reducible first | exact HK.out | apply Kept.alloc | apply Kept.drewN | apply Kept.drew) | exact HK.out)⟩
    · rw [if_neg c4] at H
      exact absurd H (by simp)
  · rw [if_neg c3] at H
    have c3b0 : decide (a1 < 128) = false := decide_eq_false c3
    clear c3
    by_cases c6 : a1 < 2048
    · rw [if_pos c6] at H
      have c6b0 : decide (a1 < 2048) = true := decide_eq_true c6
      clear c6
      obtain ⟨y130, hy130⟩ : ∃ y_ : List Int, y_ = (([(wrap64 (192 + (wrap64 (Int.tdiv a1 64)))) % 256, (wrap64 (128 + (Int.tmod a1 64))) % 256] : List Int)) := ⟨_, rfl⟩
      replace H : (if l0.length + y130.length < 140737488355328 then (some (l0 ++ y130)) else (none)) = some r := by first | (rw [hy130]; with_reducible exact H) | (have H2_ := (Option.bind_some _ _).symm.trans H; rw [hy130]; with_reducible exact H2_) | (have H2_ := (Option.bind_some _ _).symm.trans H; with_reducible exact H2_) | with_reducible exact H | (rw [hy130]; exact H) | exact H
      have Ny130 := Aside0.mk hy130
      clear hy130
      by_cases c7 : l0.length + y130.length < 140737488355328
      · rw [if_pos c7] at H
        have LMc7 := Aside0.mk c7
        clear c7
        obtain ⟨y133, hy133⟩ : ∃ y_ : List Int, y_ = (l0 ++ y130) := ⟨_, rfl⟩
        replace H : (some y133) = some r := by first | (rw [hy133]; with_reducible exact H) | (have H2_ := (Option.bind_some _ _).symm.trans H; rw [hy133]; with_reducible exact H2_) | (have H2_ := (Option.bind_some _ _).symm.trans H; with_reducible exact H2_) | with_reducible exact H | (rw [hy133]; exact H) | exact H
        have Ny133 := Aside0.mk hy133
        clear hy133
        obtain rfl := Option.some.inj H
        go_enter Tryf.func28, Tryf.ntmps28
        go_wp2_with (first | ((with_reducible refine gate_dst (N := 25) rfl ?_); refine Kd.R_lit (Kd.int .u8) _ 5 ?hg (N := 25) ?hd (xs := ([(wrap64 (192 + (wrap64 (Int.tdiv a1 64)))) % 256, (wrap64 (128 + (Int.tmod a1 64))) % 256] : List Int)) (inner := [.int .u8 ((wrap64 (192 + (wrap64 (Int.tdiv a1 64)))) % 256), .int .u8 ((wrap64 (128 + (Int.tmod a1 64))) % 256)]) (ok := fun _ => True) (okp := fun _ => True) ?hr ?hp (fun _ hk => hk) trivial (Below.refl _ _) (Nat.le_refl _) (by simp) ?_; (case hd => rfl); (case hg => rfl); (case hr => first | (go_simp; done) | (go_simp; rfl)); (case hp => exact (Reps.one (show Kd.M (Kd.int .u8) _ _ _ ((wrap64 (192 + (wrap64 (Int.tdiv a1 64)))) % 256) [.int .u8 ((wrap64 (192 + (wrap64 (Int.tdiv a1 64)))) % 256)] from rfl) (Reps.one (show Kd.M (Kd.int .u8) _ _ _ ((wrap64 (128 + (Int.tmod a1 64))) % 256) [.int .u8 ((wrap64 (128 + (Int.tmod a1 64))) % 256)] from rfl) (Reps.none _ _)))); intro v131 w8 ho9 hb hg_ hnew_; clear hg_ hnew_; (first | rw [← Ny130.out] at ho9 | (simp only [Int.reduceToNat] at ho9; rw [← Ny130.out] at ho9)); have n0_ := Aside0.mk (Kd.R_elder' (by (with_reducible repeat (first | apply Kd.R_alloc | apply Kd.R_drewN | apply Kd.R_drew)); exact HO0.out) (Kd.R_base ho9) hb); have n1_ := Aside0.mk (Kd.R_lower (Kd.R_new' (Kd.R_newM (M := fun k_ => (P0_ k_ ∨ w.heap.size ≤ k_)) ho9 (by first | exact HK.out.1 | exact (show Kept w _ (fun k_ => P0_ k_) from by repeat (first | (with_reducible first | exact HK.out | apply Kept.alloc | apply Kept.drewN | apply Kept.drew) | exact HK.out)).1) (fun k_ h_ => .inr h_)) (Kd.R_lt (by (with_reducible repeat (first | apply Kd.R_alloc | apply Kd.R_drewN | apply Kd.R_drew)); exact HO0.out))) (below_size (by repeat (first | (with_reducible first | exact HB.out | apply below_alloc | apply pw_below_drewN | apply below_drew1) | exact HB.out)))); have n2_ := Aside0.mk (Kept.below (S := (fun k_ => P0_ k_)) (by repeat (first | (with_reducible first | exact HK.out | apply Kept.alloc | apply Kept.drewN | apply Kept.drew) | exact HK.out)) hb); have n3_ := Aside0.mk (below_step (by repeat (first | (with_reducible first | exact HB.out | apply below_alloc | apply pw_below_drewN | apply below_drew1) | exact HB.out)) hb); clear HO0; clear HK; clear HB; have HO0 := n0_; have HO132 := n1_; have HK := n2_; have HB := n3_; clear n0_ n1_ n2_ n3_; clear hb ho9; obtain ⟨Ao11, co11, eo11⟩ := Kd.R_slice HO132.out; subst eo11) | ((with_reducible refine gate_builtin (b := .append) (xs := #[.tmp 16, .tmp 25]) rfl ?_); at_builtin; refine Kd.R_append_rows (Kd.int .u8) (w0 := w0) w0.heap.size rfl (.tmp 16) (.tmp 25) 31 5 (.int .u8 0) 1 rfl Tryf.underlying31 info5 rfl (by decide) (by omega) u9000_ l0 y130 _ _ _ (fun k_ => (P0_ k_ ∨ w.heap.size ≤ k_) ∧ some k_ ≠ (.slice Ao11 y130.length co11 : Value).ownBlock) (fun _ => False) rfl rfl ?aO ?aR (fun _ _ h => h) (fun _ h => h.elim) ?aF ?aB ?aS ?aL ?_; (case aR => repeat (first | exact (Kd.R_reads' HO132.out).2.2 | (with_reducible refine Kd.C_alloc ?_ _) | (with_reducible refine Kd.C_drewN ?_ _) | (with_reducible refine Kd.C_drew ?_))); (case aB => exact (by repeat (first | (with_reducible first | exact HB.out | apply below_alloc | apply pw_below_drewN | apply below_drew1) | exact HB.out))); (case aF => exact (fun k_ hk => ⟨(.inr (Nat.le_trans (by first | exact HK.out.1 | exact (show Kept w _ (fun k_ => P0_ k_) from by repeat (first | (with_reducible first | exact HK.out | apply Kept.alloc | apply Kept.drewN | apply Kept.drew) | exact HK.out)).1) hk)), Kd.fresh' (Kd.R_lt (by (with_reducible repeat (first | apply Kd.R_alloc | apply Kd.R_drewN | apply Kd.R_drew)); exact HO132.out)) k_ hk⟩)); (case aO => exact (by (with_reducible repeat (first | apply Kd.R_alloc | apply Kd.R_drewN | apply Kd.R_drew)); exact HO0.out)); (case aS => exact (below_size (by repeat (first | (with_reducible first | exact HB.out | apply below_alloc | apply pw_below_drewN | apply below_drew1) | exact HB.out)))); (case aL => have := LMc7.out; omega); intro v134 w10 ho hb hg hat; rw [← Ny133.out] at ho; have n0_ := Aside0.mk (Kd.R_after (ok := (fun k_ => (P0_ k_ ∨ w.heap.size ≤ k_))) (by (with_reducible repeat (first | apply Kd.R_alloc | apply Kd.R_drewN | apply Kd.R_drew)); exact Kd.R_mono HO132.out (fun _ hk => ⟨hk.1.1, hk.2⟩)) hg hat); have n1_ := Aside0.mk (hb); have n2_ := Aside0.mk (Kept.of_grown (S := (fun k_ => P0_ k_)) hg (by repeat (first | (with_reducible first | exact HK.out | apply Kept.alloc | apply Kept.drewN | apply Kept.drew) | exact HK.out)) (fun k_ e_ => (HO0.out.1 k_ e_).1)); have n3_ := Aside0.mk (ho); clear HO132; clear HB; clear HK; clear HO0; have HO132 := n0_; have HB := n1_; have HK := n2_; have HO135 := n3_; clear n0_ n1_ n2_ n3_; clear ho hb hg hat))
        go_ret
        exact ⟨_, by first | rfl | (simp [errW_none, errW_some] <;> rfl) | (simp [*, errW_none, errW_some] <;> rfl), by (with_reducible repeat (first | apply Kd.R_alloc | apply Kd.R_drewN | apply Kd.R_drew)); exact Kd.R_mono HO135.out (fun _ hk => hk.1), by repeat (first | (with_reducible first | exact HB.out | apply below_alloc | apply pw_below_drewN | apply below_drew1) | exact HB.out), by repeat (first | (with_reducible first | exact HK.out | apply Kept.alloc | apply Kept.drewN | apply Kept.drew) | exact HK.out)⟩
      · rw [if_neg c7] at H
        exact absurd H (by simp)
    · rw [if_neg c6] at H
      have c6b0 : decide (a1 < 2048) = false := decide_eq_false c6
      clear c6
      by_cases c12 : a1 < 65536
      · rw [if_pos c12] at H
        have c12b0 : decide (a1 < 65536) = true := decide_eq_true c12
        clear c12
        obtain ⟨y136, hy136⟩ : ∃ y_ : List Int, y_ = (([(wrap64 (224 + (wrap64 (Int.tdiv a1 4096)))) % 256, (wrap64 (128 + (Int.tmod (wrap64 (Int.tdiv a1 64)) 64))) % 256, (wrap64 (128 + (Int.tmod a1 64))) % 256] : List Int)) := ⟨_, rfl⟩
        replace H : (if l0.length + y136.length < 140737488355328 then (some (l0 ++ y136)) else (none)) = some r := by first | (rw [hy136]; with_reducible exact H) | (have H2_ := (Option.bind_some _ _).symm.trans H; rw [hy136]; with_reducible exact H2_) | (have H2_ := (Option.bind_some _ _).symm.trans H; with_reducible exact H2_) | with_reducible exact H | (rw [hy136]; exact H) | exact H
        have Ny136 := Aside0.mk hy136
        clear hy136
        by_cases c13 : l0.length + y136.length < 140737488355328
        · rw [if_pos c13] at H
          have LMc13 := Aside0.mk c13
          clear c13
          obtain ⟨y139, hy139⟩ : ∃ y_ : List Int, y_ = (l0 ++ y136) := ⟨_, rfl⟩
          replace H : (some y139) = some r := by first | (rw [hy139]; with_reducible exact H) | (have H2_ := (Option.bind_some _ _).symm.trans H; rw [hy139]; with_reducible exact H2_) | (have H2_ := (Option.bind_some _ _).symm.trans H; with_reducible exact H2_) | with_reducible exact H | (rw [hy139]; exact H) | exact H
          have Ny139 := Aside0.mk hy139
          clear hy139
          obtain rfl := Option.some.inj H
          go_enter Tryf.func28, Tryf.ntmps28
          go_wp2_with (first | ((with_reducible refine gate_dst (N := 44) rfl ?_); refine Kd.R_lit (Kd.int .u8) _ 5 ?hg (N := 44) ?hd (xs := ([(wrap64 (224 + (wrap64 (Int.tdiv a1 4096)))) % 256, (wrap64 (128 + (Int.tmod (wrap64 (Int.tdiv a1 64)) 64))) % 256, (wrap64 (128 + (Int.tmod a1 64))) % 256] : List Int)) (inner := [.int .u8 ((wrap64 (224 + (wrap64 (Int.tdiv a1 4096)))) % 256), .int .u8 ((wrap64 (128 + (Int.tmod (wrap64 (Int.tdiv a1 64)) 64))) % 256), .int .u8 ((wrap64 (128 + (Int.tmod a1 64))) % 256)]) (ok := fun _ => True) (okp := fun _ => True) ?hr ?hp (fun _ hk => hk) trivial (Below.refl _ _) (Nat.le_refl _) (by simp) ?_; (case hd => rfl); (case hg => rfl); (case hr => first | (go_simp; done) | (go_simp; rfl)); (case hp => exact (Reps.one (show Kd.M (Kd.int .u8) _ _ _ ((wrap64 (224 + (wrap64 (Int.tdiv a1 4096)))) % 256) [.int .u8 ((wrap64 (224 + (wrap64 (Int.tdiv a1 4096)))) % 256)] from rfl) (Reps.one (show Kd.M (Kd.int .u8) _ _ _ ((wrap64 (128 + (Int.tmod (wrap64 (Int.tdiv a1 64)) 64))) % 256) [.int .u8 ((wrap64 (128 + (Int.tmod (wrap64 (Int.tdiv a1 64)) 64))) % 256)] from rfl) (Reps.one (show Kd.M (Kd.int .u8) _ _ _ ((wrap64 (128 + (Int.tmod a1 64))) % 256) [.int .u8 ((wrap64 (128 + (Int.tmod a1 64))) % 256)] from rfl) (Reps.none _ _))))); intro v137 w14 ho15 hb hg_ hnew_; clear hg_ hnew_; (first | rw [← Ny136.out] at ho15 | (simp only [Int.reduceToNat] at ho15; rw [← Ny136.out] at ho15)); have n0_ := Aside0.mk (Kd.R_elder' (by (with_reducible repeat (first | apply Kd.R_alloc | apply Kd.R_drewN | apply Kd.R_drew)); exact HO0.out) (Kd.R_base ho15) hb); have n1_ := Aside0.mk (Kd.R_lower (Kd.R_new' (Kd.R_newM (M := fun k_ => (P0_ k_ ∨ w.heap.size ≤ k_)) ho15 (by first | exact HK.out.1 | exact (show Kept w _ (fun k_ => P0_ k_) from by repeat (first | (with_reducible first | exact HK.out | apply Kept.alloc | apply Kept.drewN | apply Kept.drew) | exact HK.out)).1) (fun k_ h_ => .inr h_)) (Kd.R_lt (by (with_reducible repeat (first | apply Kd.R_alloc | apply Kd.R_drewN | apply Kd.R_drew)); exact HO0.out))) (below_size (by repeat (first | (with_reducible first | exact HB.out | apply below_alloc | apply pw_below_drewN | apply below_drew1) | exact HB.out)))); have n2_ := Aside0.mk (Kept.below (S := (fun k_ => P0_ k_)) (by repeat (first | (with_reducible first | exact HK.out | apply Kept.alloc | apply Kept.drewN | apply Kept.drew) | exact HK.out)) hb); have n3_ := Aside0.mk (below_step (by repeat (first | (with_reducible first | exact HB.out | apply below_alloc | apply pw_below_drewN | apply below_drew1) | exact HB.out)) hb); clear HO0; clear HK; clear HB; have HO0 := n0_; have HO138 := n1_; have HK := n2_; have HB := n3_; clear n0_ n1_ n2_ n3_; clear hb ho15; obtain ⟨Ao17, co17, eo17⟩ := Kd.R_slice HO138.out; subst eo17) | ((with_reducible refine gate_builtin (b := .append) (xs := #[.tmp 30, .tmp 44]) rfl ?_); at_builtin; refine Kd.R_append_rows (Kd.int .u8) (w0 := w0) w0.heap.size rfl (.tmp 30) (.tmp 44) 31 5 (.int .u8 0) 1 rfl Tryf.underlying31 info5 rfl (by decide) (by omega) u9000_ l0 y136 _ _ _ (fun k_ => (P0_ k_ ∨ w.heap.size ≤ k_) ∧ some k_ ≠ (.slice Ao17 y136.length co17 : Value).ownBlock) (fun _ => False) rfl rfl ?aO ?aR (fun _ _ h => h) (fun _ h => h.elim) ?aF ?aB ?aS ?aL ?_; (case aR => repeat (first | exact (Kd.R_reads' HO138.out).2.2 | (with_reducible refine Kd.C_alloc ?_ _) | (with_reducible refine Kd.C_drewN ?_ _) | (with_reducible refine Kd.C_drew ?_))); (case aB => exact (by repeat (first | (with_reducible first | exact HB.out | apply below_alloc | apply pw_below_drewN | apply below_drew1) | exact HB.out))); (case aF => exact (fun k_ hk => ⟨(.inr (Nat.le_trans (by first | exact HK.out.1 | exact (show Kept w _ (fun k_ => P0_ k_) from by repeat (first | (with_reducible first | exact HK.out | apply Kept.alloc | apply Kept.drewN | apply Kept.drew) | exact HK.out)).1) hk)), Kd.fresh' (Kd.R_lt (by (with_reducible repeat (first | apply Kd.R_alloc | apply Kd.R_drewN | apply Kd.R_drew)); exact HO138.out)) k_ hk⟩)); (case aO => exact (by (with_reducible repeat (first | apply Kd.R_alloc | apply Kd.R_drewN | apply Kd.R_drew)); exact HO0.out)); (case aS => exact (below_size (by repeat (first | (with_reducible first | exact HB.out | apply below_alloc | apply pw_below_drewN | apply below_drew1) | exact HB.out)))); (case aL => have := LMc13.out; omega); intro v140 w16 ho hb hg hat; rw [← Ny139.out] at ho; have n0_ := Aside0.mk (Kd.R_after (ok := (fun k_ => (P0_ k_ ∨ w.heap.size ≤ k_))) (by (with_reducible repeat (first | apply Kd.R_alloc | apply Kd.R_drewN | apply Kd.R_drew)); exact Kd.R_mono HO138.out (fun _ hk => ⟨hk.1.1, hk.2⟩)) hg hat); have n1_ := Aside0.mk (hb); have n2_ := Aside0.mk (Kept.of_grown (S := (fun k_ => P0_ k_)) hg (by repeat (first | (with_reducible first | exact HK.out | apply Kept.alloc | apply Kept.drewN | apply Kept.drew) | exact HK.out)) (fun k_ e_ => (HO0.out.1 k_ e_).1)); have n3_ := Aside0.mk (ho); clear HO138; clear HB; clear HK; clear HO0; have HO138 := n0_; have HB := n1_; have HK := n2_; have HO141 := n3_; clear n0_ n1_ n2_ n3_; clear ho hb hg hat))
          go_ret
          exact ⟨_, by first | rfl | (simp [errW_none, errW_some] <;> rfl) | (simp [*, errW_none, errW_some] <;> rfl), by (with_reducible repeat (first | apply Kd.R_alloc | apply Kd.R_drewN | apply Kd.R_drew)); exact Kd.R_mono HO141.out (fun _ hk => hk.1), by repeat (first | (with_reducible first | exact HB.out | apply below_alloc | apply pw_below_drewN | apply below_drew1) | exact HB.out), by repeat (first | (with_reducible first | exact HK.out | apply Kept.alloc | apply Kept.drewN | apply Kept.drew) | exact HK.out)⟩
        · rw [if_neg c13] at H
          exact absurd H (by simp)
      · rw [if_neg c12] at H
        have c12b0 : decide (a1 < 65536) = false := decide_eq_false c12
        clear c12
        obtain ⟨y142, hy142⟩ : ∃ y_ : List Int, y_ = (([(wrap64 (240 + (wrap64 (Int.tdiv a1 262144)))) % 256, (wrap64 (128 + (Int.tmod (wrap64 (Int.tdiv a1 4096)) 64))) % 256, (wrap64 (128 + (Int.tmod (wrap64 (Int.tdiv a1 64)) 64))) % 256, (wrap64 (128 + (Int.tmod a1 64))) % 256] : List Int)) := ⟨_, rfl⟩
        replace H : (if l0.length + y142.length < 140737488355328 then (some (l0 ++ y142)) else (none)) = some r := by first | (rw [hy142]; with_reducible exact H) | (have H2_ := (Option.bind_some _ _).symm.trans H; rw [hy142]; with_reducible exact H2_) | (have H2_ := (Option.bind_some _ _).symm.trans H; with_reducible exact H2_) | with_reducible exact H | (rw [hy142]; exact H) | exact H
        have Ny142 := Aside0.mk hy142
        clear hy142
        by_cases c18 : l0.length + y142.length < 140737488355328
        · rw [if_pos c18] at H
          have LMc18 := Aside0.mk c18
          clear c18
          obtain ⟨y145, hy145⟩ : ∃ y_ : List Int, y_ = (l0 ++ y142) := ⟨_, rfl⟩
          replace H : (some y145) = some r := by first | (rw [hy145]; with_reducible exact H) | (have H2_ := (Option.bind_some _ _).symm.trans H; rw [hy145]; with_reducible exact H2_) | (have H2_ := (Option.bind_some _ _).symm.trans H; with_reducible exact H2_) | with_reducible exact H | (rw [hy145]; exact H) | exact H
          have Ny145 := Aside0.mk hy145
          clear hy145
          obtain rfl := Option.some.inj H
          go_enter Tryf.func28, Tryf.ntmps28
          go_wp2_with (first | ((with_reducible refine gate_dst (N := 65) rfl ?_); refine Kd.R_lit (Kd.int .u8) _ 5 ?hg (N := 65) ?hd (xs := ([(wrap64 (240 + (wrap64 (Int.tdiv a1 262144)))) % 256, (wrap64 (128 + (Int.tmod (wrap64 (Int.tdiv a1 4096)) 64))) % 256, (wrap64 (128 + (Int.tmod (wrap64 (Int.tdiv a1 64)) 64))) % 256, (wrap64 (128 + (Int.tmod a1 64))) % 256] : List Int)) (inner := [.int .u8 ((wrap64 (240 + (wrap64 (Int.tdiv a1 262144)))) % 256), .int .u8 ((wrap64 (128 + (Int.tmod (wrap64 (Int.tdiv a1 4096)) 64))) % 256), .int .u8 ((wrap64 (128 + (Int.tmod (wrap64 (Int.tdiv a1 64)) 64))) % 256), .int .u8 ((wrap64 (128 + (Int.tmod a1 64))) % 256)]) (ok := fun _ => True) (okp := fun _ => True) ?hr ?hp (fun _ hk => hk) trivial (Below.refl _ _) (Nat.le_refl _) (by simp) ?_; (case hd => rfl); (case hg => rfl); (case hr => first | (go_simp; done) | (go_simp; rfl)); (case hp => exact (Reps.one (show Kd.M (Kd.int .u8) _ _ _ ((wrap64 (240 + (wrap64 (Int.tdiv a1 262144)))) % 256) [.int .u8 ((wrap64 (240 + (wrap64 (Int.tdiv a1 262144)))) % 256)] from rfl) (Reps.one (show Kd.M (Kd.int .u8) _ _ _ ((wrap64 (128 + (Int.tmod (wrap64 (Int.tdiv a1 4096)) 64))) % 256) [.int .u8 ((wrap64 (128 + (Int.tmod (wrap64 (Int.tdiv a1 4096)) 64))) % 256)] from rfl) (Reps.one (show Kd.M (Kd.int .u8) _ _ _ ((wrap64 (128 + (Int.tmod (wrap64 (Int.tdiv a1 64)) 64))) % 256) [.int .u8 ((wrap64 (128 + (Int.tmod (wrap64 (Int.tdiv a1 64)) 64))) % 256)] from rfl) (Reps.one (show Kd.M (Kd.int .u8) _ _ _ ((wrap64 (128 + (Int.tmod a1 64))) % 256) [.int .u8 ((wrap64 (128 + (Int.tmod a1 64))) % 256)] from rfl) (Reps.none _ _)))))); intro v143 w19 ho20 hb hg_ hnew_; clear hg_ hnew_; (first | rw [← Ny142.out] at ho20 | (simp only [Int.reduceToNat] at ho20; rw [← Ny142.out] at ho20)); have n0_ := Aside0.mk (Kd.R_elder' (by (with_reducible repeat (first | apply Kd.R_alloc | apply Kd.R_drewN | apply Kd.R_drew)); exact HO0.out) (Kd.R_base ho20) hb); have n1_ := Aside0.mk (Kd.R_lower (Kd.R_new' (Kd.R_newM (M := fun k_ => (P0_ k_ ∨ w.heap.size ≤ k_)) ho20 (by first | exact HK.out.1 | exact (show Kept w _ (fun k_ => P0_ k_) from by repeat (first | (with_reducible first | exact HK.out | apply Kept.alloc | apply Kept.drewN | apply Kept.drew) | exact HK.out)).1) (fun k_ h_ => .inr h_)) (Kd.R_lt (by (with_reducible repeat (first | apply Kd.R_alloc | apply Kd.R_drewN | apply Kd.R_drew)); exact HO0.out))) (below_size (by repeat (first | (with_reducible first | exact HB.out | apply below_alloc | apply pw_below_drewN | apply below_drew1) | exact HB.out)))); have n2_ := Aside0.mk (Kept.below (S := (fun k_ => P0_ k_)) (by repeat (first | (with_reducible first | exact HK.out | apply Kept.alloc | apply Kept.drewN | apply Kept.drew) | exact HK.out)) hb); have n3_ := Aside0.mk (below_step (by repeat (first | (with_reducible first | exact HB.out | apply below_alloc | apply pw_below_drewN | apply below_drew1) | exact HB.out)) hb); clear HO0; clear HK; clear HB; have HO0 := n0_; have HO144 := n1_; have HK := n2_; have HB := n3_; clear n0_ n1_ n2_ n3_; clear hb ho20; obtain ⟨Ao22, co22, eo22⟩ := Kd.R_slice HO144.out; subst eo22) | ((with_reducible refine gate_builtin (b := .append) (xs := #[.tmp 46, .tmp 65]) rfl ?_); at_builtin; refine Kd.R_append_rows (Kd.int .u8) (w0 := w0) w0.heap.size rfl (.tmp 46) (.tmp 65) 31 5 (.int .u8 0) 1 rfl Tryf.underlying31 info5 rfl (by decide) (by omega) u9000_ l0 y142 _ _ _ (fun k_ => (P0_ k_ ∨ w.heap.size ≤ k_) ∧ some k_ ≠ (.slice Ao22 y142.length co22 : Value).ownBlock) (fun _ => False) rfl rfl ?aO ?aR (fun _ _ h => h) (fun _ h => h.elim) ?aF ?aB ?aS ?aL ?_; (case aR => repeat (first | exact (Kd.R_reads' HO144.out).2.2 | (with_reducible refine Kd.C_alloc ?_ _) | (with_reducible refine Kd.C_drewN ?_ _) | (with_reducible refine Kd.C_drew ?_))); (case aB => exact (by repeat (first | (with_reducible first | exact HB.out | apply below_alloc | apply pw_below_drewN | apply below_drew1) | exact HB.out))); (case aF => exact (fun k_ hk => ⟨(.inr (Nat.le_trans (by first | exact HK.out.1 | exact (show Kept w _ (fun k_ => P0_ k_) from by repeat (first | (with_reducible first | exact HK.out | apply Kept.alloc | apply Kept.drewN | apply Kept.drew) | exact HK.out)).1) hk)), Kd.fresh' (Kd.R_lt (by (with_reducible repeat (first | apply Kd.R_alloc | apply Kd.R_drewN | apply Kd.R_drew)); exact HO144.out)) k_ hk⟩)); (case aO => exact (by (with_reducible repeat (first | apply Kd.R_alloc | apply Kd.R_drewN | apply Kd.R_drew)); exact HO0.out)); (case aS => exact (below_size (by repeat (first | (with_reducible first | exact HB.out | apply below_alloc | apply pw_below_drewN | apply below_drew1) | exact HB.out)))); (case aL => have := LMc18.out; omega); intro v146 w21 ho hb hg hat; rw [← Ny145.out] at ho; have n0_ := Aside0.mk (Kd.R_after (ok := (fun k_ => (P0_ k_ ∨ w.heap.size ≤ k_))) (by (with_reducible repeat (first | apply Kd.R_alloc | apply Kd.R_drewN | apply Kd.R_drew)); exact Kd.R_mono HO144.out (fun _ hk => ⟨hk.1.1, hk.2⟩)) hg hat); have n1_ := Aside0.mk (hb); have n2_ := Aside0.mk (Kept.of_grown (S := (fun k_ => P0_ k_)) hg (by repeat (first | (with_reducible first | exact HK.out | apply Kept.alloc | apply Kept.drewN | apply Kept.drew) | exact HK.out)) (fun k_ e_ => (HO0.out.1 k_ e_).1)); have n3_ := Aside0.mk (ho); clear HO144; clear HB; clear HK; clear HO0; have HO144 := n0_; have HB := n1_; have HK := n2_; have HO147 := n3_; clear n0_ n1_ n2_ n3_; clear ho hb hg hat))
          go_ret
          exact ⟨_, by first | rfl | (simp [errW_none, errW_some] <;> rfl) | (simp [*, errW_none, errW_some] <;> rfl), by (with_reducible repeat (first | apply Kd.R_alloc | apply Kd.R_drewN | apply Kd.R_drew)); exact Kd.R_mono HO147.out (fun _ hk => hk.1), by repeat (first | (with_reducible first | exact HB.out | apply below_alloc | apply pw_below_drewN | apply below_drew1) | exact HB.out), by repeat (first | (with_reducible first | exact HK.out | apply Kept.alloc | apply Kept.drewN | apply Kept.drew) | exact HK.out)⟩
        · rw [if_neg c18] at H
          exact absurd H (by simp)

/-! ### spec_units: function 24 -/
def spec_units.f (k : Nat) (a0 : Int) : Option (List Int) := (spec_put.f ([] : List Int) a0).bind fun t148 => ((spec_Units.f k (strOfNums t148)).bind fun t151 => (some t151))
theorem spec_units.mono : ∀ a0 k, LeO (spec_units.f k a0) (spec_units.f (k + 1) a0) := by
  intro a0 k
  unfold spec_units.f
  repeat' first
      | (with_reducible exact spec_Units.mono _ _)
      | (with_reducible exact LeO.refl _)
      | (with_reducible exact LeO.none _)
      | (with_reducible refine LeO.ite ?_ ?_)
      | (with_reducible refine LeO.bind ?_ (fun _ => ?_))
      | exact spec_Units.mono _ _
      | exact LeO.none _
      | refine LeO.ite ?_ ?_
      | refine LeO.bind ?_ (fun _ => ?_)
set_option maxHeartbeats 8000000 in
set_option maxRecDepth 100000 in
theorem spec_units.calls (k : Nat) (a0 : Int) (r : List Int) (w : World) (h : spec_units.f k a0 = some r) :
    Calls Tryf.prog 24 #[.int .i64 a0] w fun e w' => ∃ v0_ : Value, e = .returned (v0_) ∧ Kd.R (Kd.int .u16) 39 w' w.heap.size (fun _ => True) v0_ r ∧ Below w.heap.size w w' := by
  have HB := Aside0.mk (Below.refl w.heap.size w)
  have H : ((spec_put.f ([] : List Int) a0).bind fun t148 => ((spec_Units.f k (strOfNums t148)).bind fun t151 => (some t151))) = some r := h
  clear h
  replace H := Option.bind_eq_some_iff.mp H
  obtain ⟨t148, A20, H⟩ := H
  replace H : ((spec_Units.f k (strOfNums t148)).bind fun t151 => (some t151)) = some r := H
  have A2 := Aside0.mk A20
  clear A20
  replace H := Option.bind_eq_some_iff.mp H
  obtain ⟨t151, A30, H⟩ := H
  replace H : (some t151) = some r := H
  have A3 := Aside0.mk A30
  clear A30
  obtain rfl := Option.some.inj H
  go_enter Tryf.func24, Tryf.ntmps24
  go_wp2_with (first | ((with_reducible refine gate_callee (f := 28) rfl ?_); refine goesL_ (some 4) rfl rfl Tryf.func28 (by kernel_rfl) rfl #[.slice none 0 0, .int .i64 a0] rfl (by (try simp only [List.map_toArray, List.map_cons, List.map_nil]); first | done | rfl | (simp only [List.length_drop, List.length_take]; rfl)) ?_; (refine (spec_put.calls (fun k_ => some k_ = (.slice none 0 0 : Value).ownBlock) (.slice none 0 0) ([] : List Int) a0 t148 w _ ?side1 ?side2 A2.out).mono ?_); (case side1 => repeat (first | (with_reducible first | exact HB.out | apply below_alloc | apply pw_below_drewN | apply below_drew1) | exact HB.out)); (case side2 => exact Kd.R_nil _ _ _ _ _); rintro e w4 ⟨v149, rfl, ho0, hb, hkp⟩; refine ⟨_, rfl, ?_⟩; have n0_ := Aside0.mk (Kd.R_mono (ok' := fun k_ => True) ho0 (fun k_ hk_ => trivial)); have n1_ := Aside0.mk (hb); clear HB; have HO150 := n0_; have HB := n1_; clear n0_ n1_; (try clear hb); (try clear hkp); (try clear ho0); have hcv5 := own_string (P := Tryf.prog) Tryf.underlying31 Tryf.underlying5 Tryf.underlying9 (Kd.own_of_R HO150.out)) | ((with_reducible refine gate_callee (f := 9) rfl ?_); refine goesL_ (some 6) rfl rfl Tryf.func9 (by kernel_rfl) rfl #[.string (strOfNums t148)] rfl (by (try simp only [List.map_toArray, List.map_cons, List.map_nil]); first | done | rfl | (simp only [List.length_drop, List.length_take]; rfl)) ?_; (with_reducible refine (spec_Units.calls k (strOfNums t148) t151 _ A3.out).mono ?_); rintro e w6 ⟨v152, rfl, ho0, hb⟩; refine ⟨_, rfl, ?_⟩; have n0_ := Aside0.mk (Kd.R_below (by (with_reducible repeat (first | apply Kd.R_alloc | apply Kd.R_drewN | apply Kd.R_drew)); exact HO150.out) hb); have n1_ := Aside0.mk (Kd.R_lower ho0 (below_size (by repeat (first | (with_reducible first | exact HB.out | apply below_alloc | apply pw_below_drewN | apply below_drew1) | exact HB.out)))); have n2_ := Aside0.mk (below_step (by repeat (first | (with_reducible first | exact HB.out | apply below_alloc | apply pw_below_drewN | apply below_drew1) | exact HB.out)) hb); clear HO150; clear HB; have HO150 := n0_; have HO153 := n1_; have HB := n2_; clear n0_ n1_ n2_; (try clear hb); (try clear hb2); (try clear hk); (try clear hi); (try clear ho0)))
  go_ret
  exact ⟨_, by first | rfl | (simp [errW_none, errW_some] <;> rfl) | (simp [*, errW_none, errW_some] <;> rfl), by (with_reducible repeat (first | apply Kd.R_alloc | apply Kd.R_drewN | apply Kd.R_drew)); exact HO153.out, by repeat (first | (with_reducible first | exact HB.out | apply below_alloc | apply pw_below_drewN | apply below_drew1) | exact HB.out)⟩

end Go.Proofs.YtnlfmlamkkbjaaaFmt.PFnName
