/- A printed text, its imports thinned. (Began as the kit's print.) -/
import Derived.Test.YtikgnlgmidbclaaDoorO0
namespace Go.Proofs.YtikgnlgmidbclaaDoor.PFnModulePath
open Go.RowKit Go.Proofs.YtikgnlgmidbclaaDoorW.PrintWords Go.Proofs.YtikgnlgmidbclaaDoorW.PrintLast Go.Proofs.YtikgnlgmidbclaaDoorW.PrintMore
attribute [local go_sem] max2_int min2_int max_two min_two max_three min_three max_four min_four   -- for this text's walks alone
set_option linter.unusedVariables false
set_option linter.unusedSimpArgs false

/-! ### spec_Major: function 24 -/
def spec_Major.f (a0 : ByteArray) : Option (Int) := if (a0.size : Int) > 3 then (if 0 ≤ (wrap64 ((a0.size : Int) - 3)) then (if (wrap64 ((a0.size : Int) - 3)) < (a0.size : Int) then (if (bt a0 (wrap64 ((a0.size : Int) - 3))) = 47 then (if 0 ≤ (wrap64 ((a0.size : Int) - 2)) then (if (wrap64 ((a0.size : Int) - 2)) < (a0.size : Int) then (if (bt a0 (wrap64 ((a0.size : Int) - 2))) = 118 then (if 0 ≤ (wrap64 ((a0.size : Int) - 1)) then (if (wrap64 ((a0.size : Int) - 1)) < (a0.size : Int) then (if (bt a0 (wrap64 ((a0.size : Int) - 1))) ≥ 50 then (if (bt a0 (wrap64 ((a0.size : Int) - 1))) ≤ 57 then (some (((bt a0 (wrap64 ((a0.size : Int) - 1))) - 48) % 256)) else (some 0)) else (some 0)) else (none)) else (none)) else (some 0)) else (none)) else (none)) else (some 0)) else (none)) else (none)) else (some 0)
set_option maxHeartbeats 8000000 in
set_option maxRecDepth 100000 in
theorem spec_Major.calls (a0 : ByteArray) (r : Int) (w : World) (h : spec_Major.f a0 = some r) :
    Calls Tryd.prog 24 #[.string a0] w fun e w' => e = .returned (.int .i64 r) ∧ Drawn0 w w' := by
  have H : (if (a0.size : Int) > 3 then (if 0 ≤ (wrap64 ((a0.size : Int) - 3)) then (if (wrap64 ((a0.size : Int) - 3)) < (a0.size : Int) then (if (bt a0 (wrap64 ((a0.size : Int) - 3))) = 47 then (if 0 ≤ (wrap64 ((a0.size : Int) - 2)) then (if (wrap64 ((a0.size : Int) - 2)) < (a0.size : Int) then (if (bt a0 (wrap64 ((a0.size : Int) - 2))) = 118 then (if 0 ≤ (wrap64 ((a0.size : Int) - 1)) then (if (wrap64 ((a0.size : Int) - 1)) < (a0.size : Int) then (if (bt a0 (wrap64 ((a0.size : Int) - 1))) ≥ 50 then (if (bt a0 (wrap64 ((a0.size : Int) - 1))) ≤ 57 then (some (((bt a0 (wrap64 ((a0.size : Int) - 1))) - 48) % 256)) else (some 0)) else (some 0)) else (none)) else (none)) else (some 0)) else (none)) else (none)) else (some 0)) else (none)) else (none)) else (some 0)) = some r := h
  clear h
  by_cases c2 : (a0.size : Int) > 3
  · rw [if_pos c2] at H
    have c2b0 : decide (3 < (a0.size : Int)) = true := decide_eq_true c2
    have c2b1 : decide (3 < a0.size) = true := decide_eq_true (by omega)
    clear c2
    obtain ⟨ji3, hji3⟩ : ∃ j_ : Int, (wrap64 ((a0.size : Int) - 3)) = j_ := ⟨_, rfl⟩
    replace H : (if 0 ≤ (ji3) then (if (ji3) < (a0.size : Int) then (if (bt a0 (ji3)) = 47 then (if 0 ≤ (wrap64 ((a0.size : Int) - 2)) then (if (wrap64 ((a0.size : Int) - 2)) < (a0.size : Int) then (if (bt a0 (wrap64 ((a0.size : Int) - 2))) = 118 then (if 0 ≤ (wrap64 ((a0.size : Int) - 1)) then (if (wrap64 ((a0.size : Int) - 1)) < (a0.size : Int) then (if (bt a0 (wrap64 ((a0.size : Int) - 1))) ≥ 50 then (if (bt a0 (wrap64 ((a0.size : Int) - 1))) ≤ 57 then (some (((bt a0 (wrap64 ((a0.size : Int) - 1))) - 48) % 256)) else (some 0)) else (some 0)) else (none)) else (none)) else (some 0)) else (none)) else (none)) else (some 0)) else (none)) else (none)) = some r := by first | (rw [hji3] at H; exact H) | (simp only [hji3] at H ⊢; exact H)
    have hji3w : (IntKind.i64.wrap ((a0.size : Int) - 3)) = ji3 := (i64_w _).trans hji3
    by_cases c4 : 0 ≤ (ji3)
    · rw [if_pos c4] at H
      have c4b0 : decide (0 ≤ (ji3)) = true := decide_eq_true c4
      clear c4
      by_cases c5 : (ji3) < (a0.size : Int)
      · rw [if_pos c5] at H
        have c5b0 : decide ((ji3) < (a0.size : Int)) = true := decide_eq_true c5
        clear c5
        by_cases c7 : (bt a0 (ji3)) = 47
        · rw [if_pos c7] at H
          have c7b0 : ((bt a0 (ji3)) == 47) = true := beq_iff_eq.mpr c7
          have c7b1 : ((bt a0 (ji3)) != 47) = false := bne_eq_false_iff_eq.mpr c7
          clear c7
          obtain ⟨ji8, hji8⟩ : ∃ j_ : Int, (wrap64 ((a0.size : Int) - 2)) = j_ := ⟨_, rfl⟩
          replace H : (if 0 ≤ (ji8) then (if (ji8) < (a0.size : Int) then (if (bt a0 (ji8)) = 118 then (if 0 ≤ (wrap64 ((a0.size : Int) - 1)) then (if (wrap64 ((a0.size : Int) - 1)) < (a0.size : Int) then (if (bt a0 (wrap64 ((a0.size : Int) - 1))) ≥ 50 then (if (bt a0 (wrap64 ((a0.size : Int) - 1))) ≤ 57 then (some (((bt a0 (wrap64 ((a0.size : Int) - 1))) - 48) % 256)) else (some 0)) else (some 0)) else (none)) else (none)) else (some 0)) else (none)) else (none)) = some r := by first | (rw [hji8] at H; exact H) | (simp only [hji8] at H ⊢; exact H)
          have hji8w : (IntKind.i64.wrap ((a0.size : Int) - 2)) = ji8 := (i64_w _).trans hji8
          by_cases c9 : 0 ≤ (ji8)
          · rw [if_pos c9] at H
            have c9b0 : decide (0 ≤ (ji8)) = true := decide_eq_true c9
            clear c9
            by_cases c10 : (ji8) < (a0.size : Int)
            · rw [if_pos c10] at H
              have c10b0 : decide ((ji8) < (a0.size : Int)) = true := decide_eq_true c10
              clear c10
              by_cases c12 : (bt a0 (ji8)) = 118
              · rw [if_pos c12] at H
                have c12b0 : ((bt a0 (ji8)) == 118) = true := beq_iff_eq.mpr c12
                have c12b1 : ((bt a0 (ji8)) != 118) = false := bne_eq_false_iff_eq.mpr c12
                clear c12
                obtain ⟨ji13, hji13⟩ : ∃ j_ : Int, (wrap64 ((a0.size : Int) - 1)) = j_ := ⟨_, rfl⟩
                replace H : (if 0 ≤ (ji13) then (if (ji13) < (a0.size : Int) then (if (bt a0 (ji13)) ≥ 50 then (if (bt a0 (ji13)) ≤ 57 then (some (((bt a0 (ji13)) - 48) % 256)) else (some 0)) else (some 0)) else (none)) else (none)) = some r := by first | (rw [hji13] at H; exact H) | (simp only [hji13] at H ⊢; exact H)
                have hji13w : (IntKind.i64.wrap ((a0.size : Int) - 1)) = ji13 := (i64_w _).trans hji13
                by_cases c14 : 0 ≤ (ji13)
                · rw [if_pos c14] at H
                  have c14b0 : decide (0 ≤ (ji13)) = true := decide_eq_true c14
                  clear c14
                  by_cases c15 : (ji13) < (a0.size : Int)
                  · rw [if_pos c15] at H
                    have c15b0 : decide ((ji13) < (a0.size : Int)) = true := decide_eq_true c15
                    clear c15
                    by_cases c17 : (bt a0 (ji13)) ≥ 50
                    · rw [if_pos c17] at H
                      have c17b0 : decide (50 ≤ (bt a0 (ji13))) = true := decide_eq_true c17
                      clear c17
                      by_cases c19 : (bt a0 (ji13)) ≤ 57
                      · rw [if_pos c19] at H
                        have c19b0 : decide ((bt a0 (ji13)) ≤ 57) = true := decide_eq_true c19
                        clear c19
                        obtain rfl := Option.some.inj H
                        have p6 : 0 ≤ ((ji3) : Int) := of_decide_eq_true (by first | (with_reducible assumption) | assumption)
                        have q6 : (ji3) < (a0.size : Int) := of_decide_eq_true (by first | (with_reducible assumption) | assumption)
                        have hx6 := bt_at a0 (ji3)
                        replace p6 := eq_true p6
                        replace q6 := eq_true q6
                        have p11 : 0 ≤ ((ji8) : Int) := of_decide_eq_true (by first | (with_reducible assumption) | assumption)
                        have q11 : (ji8) < (a0.size : Int) := of_decide_eq_true (by first | (with_reducible assumption) | assumption)
                        have hx11 := bt_at a0 (ji8)
                        replace p11 := eq_true p11
                        replace q11 := eq_true q11
                        have p16 : 0 ≤ ((ji13) : Int) := of_decide_eq_true (by first | (with_reducible assumption) | assumption)
                        have q16 : (ji13) < (a0.size : Int) := of_decide_eq_true (by first | (with_reducible assumption) | assumption)
                        have hx16 := bt_at a0 (ji13)
                        replace p16 := eq_true p16
                        replace q16 := eq_true q16
                        have p18 : 0 ≤ ((ji13) : Int) := of_decide_eq_true (by first | (with_reducible assumption) | assumption)
                        have q18 : (ji13) < (a0.size : Int) := of_decide_eq_true (by first | (with_reducible assumption) | assumption)
                        have hx18 := bt_at a0 (ji13)
                        replace p18 := eq_true p18
                        replace q18 := eq_true q18
                        have p20 : 0 ≤ ((ji13) : Int) := of_decide_eq_true (by first | (with_reducible assumption) | assumption)
                        have q20 : (ji13) < (a0.size : Int) := of_decide_eq_true (by first | (with_reducible assumption) | assumption)
                        have hx20 := bt_at a0 (ji13)
                        replace p20 := eq_true p20
                        replace q20 := eq_true q20
                        go_enter Tryd.func24, Tryd.ntmps24
                        go_wp2
                        go_ret
                        exact ⟨by first | rfl | (simp; done) | (simp only [← hji3, ← hji8, ← hji13] <;> (first | rfl | simp)) | (simp [*]; done), by repeat (first | exact Drawn0.refl _ | apply Drawn0.step)⟩
                      · rw [if_neg c19] at H
                        have c19b0 : decide ((bt a0 (ji13)) ≤ 57) = false := decide_eq_false c19
                        clear c19
                        obtain rfl := Option.some.inj H
                        have p6 : 0 ≤ ((ji3) : Int) := of_decide_eq_true (by first | (with_reducible assumption) | assumption)
                        have q6 : (ji3) < (a0.size : Int) := of_decide_eq_true (by first | (with_reducible assumption) | assumption)
                        have hx6 := bt_at a0 (ji3)
                        replace p6 := eq_true p6
                        replace q6 := eq_true q6
                        have p11 : 0 ≤ ((ji8) : Int) := of_decide_eq_true (by first | (with_reducible assumption) | assumption)
                        have q11 : (ji8) < (a0.size : Int) := of_decide_eq_true (by first | (with_reducible assumption) | assumption)
                        have hx11 := bt_at a0 (ji8)
                        replace p11 := eq_true p11
                        replace q11 := eq_true q11
                        have p16 : 0 ≤ ((ji13) : Int) := of_decide_eq_true (by first | (with_reducible assumption) | assumption)
                        have q16 : (ji13) < (a0.size : Int) := of_decide_eq_true (by first | (with_reducible assumption) | assumption)
                        have hx16 := bt_at a0 (ji13)
                        replace p16 := eq_true p16
                        replace q16 := eq_true q16
                        have p18 : 0 ≤ ((ji13) : Int) := of_decide_eq_true (by first | (with_reducible assumption) | assumption)
                        have q18 : (ji13) < (a0.size : Int) := of_decide_eq_true (by first | (with_reducible assumption) | assumption)
                        have hx18 := bt_at a0 (ji13)
                        replace p18 := eq_true p18
                        replace q18 := eq_true q18
                        go_enter Tryd.func24, Tryd.ntmps24
                        go_wp2
                        go_ret
                        exact ⟨by first | rfl | (simp; done) | (simp only [← hji3, ← hji8, ← hji13] <;> (first | rfl | simp)) | (simp [*]; done), by repeat (first | exact Drawn0.refl _ | apply Drawn0.step)⟩
                    · rw [if_neg c17] at H
                      have c17b0 : decide (50 ≤ (bt a0 (ji13))) = false := decide_eq_false c17
                      clear c17
                      obtain rfl := Option.some.inj H
                      have p6 : 0 ≤ ((ji3) : Int) := of_decide_eq_true (by first | (with_reducible assumption) | assumption)
                      have q6 : (ji3) < (a0.size : Int) := of_decide_eq_true (by first | (with_reducible assumption) | assumption)
                      have hx6 := bt_at a0 (ji3)
                      replace p6 := eq_true p6
                      replace q6 := eq_true q6
                      have p11 : 0 ≤ ((ji8) : Int) := of_decide_eq_true (by first | (with_reducible assumption) | assumption)
                      have q11 : (ji8) < (a0.size : Int) := of_decide_eq_true (by first | (with_reducible assumption) | assumption)
                      have hx11 := bt_at a0 (ji8)
                      replace p11 := eq_true p11
                      replace q11 := eq_true q11
                      have p16 : 0 ≤ ((ji13) : Int) := of_decide_eq_true (by first | (with_reducible assumption) | assumption)
                      have q16 : (ji13) < (a0.size : Int) := of_decide_eq_true (by first | (with_reducible assumption) | assumption)
                      have hx16 := bt_at a0 (ji13)
                      replace p16 := eq_true p16
                      replace q16 := eq_true q16
                      go_enter Tryd.func24, Tryd.ntmps24
                      go_wp2
                      go_ret
                      exact ⟨by first | rfl | (simp; done) | (simp only [← hji3, ← hji8, ← hji13] <;> (first | rfl | simp)) | (simp [*]; done), by repeat (first | exact Drawn0.refl _ | apply Drawn0.step)⟩
                  · rw [if_neg c15] at H
                    exact absurd H (by simp)
                · rw [if_neg c14] at H
                  exact absurd H (by simp)
              · rw [if_neg c12] at H
                have c12b0 : ((bt a0 (ji8)) == 118) = false := beq_eq_false_iff_ne.mpr c12
                have c12b1 : ((bt a0 (ji8)) != 118) = true := bne_iff_ne.mpr c12
                obtain rfl := Option.some.inj H
                have p6 : 0 ≤ ((ji3) : Int) := of_decide_eq_true (by first | (with_reducible assumption) | assumption)
                have q6 : (ji3) < (a0.size : Int) := of_decide_eq_true (by first | (with_reducible assumption) | assumption)
                have hx6 := bt_at a0 (ji3)
                replace p6 := eq_true p6
                replace q6 := eq_true q6
                have p11 : 0 ≤ ((ji8) : Int) := of_decide_eq_true (by first | (with_reducible assumption) | assumption)
                have q11 : (ji8) < (a0.size : Int) := of_decide_eq_true (by first | (with_reducible assumption) | assumption)
                have hx11 := bt_at a0 (ji8)
                replace p11 := eq_true p11
                replace q11 := eq_true q11
                go_enter Tryd.func24, Tryd.ntmps24
                go_wp2
                go_ret
                exact ⟨by first | rfl | (simp; done) | (simp only [← hji3, ← hji8] <;> (first | rfl | simp)) | (simp [*]; done), by repeat (first | exact Drawn0.refl _ | apply Drawn0.step)⟩
            · rw [if_neg c10] at H
              exact absurd H (by simp)
          · rw [if_neg c9] at H
            exact absurd H (by simp)
        · rw [if_neg c7] at H
          have c7b0 : ((bt a0 (ji3)) == 47) = false := beq_eq_false_iff_ne.mpr c7
          have c7b1 : ((bt a0 (ji3)) != 47) = true := bne_iff_ne.mpr c7
          obtain rfl := Option.some.inj H
          have p6 : 0 ≤ ((ji3) : Int) := of_decide_eq_true (by first | (with_reducible assumption) | assumption)
          have q6 : (ji3) < (a0.size : Int) := of_decide_eq_true (by first | (with_reducible assumption) | assumption)
          have hx6 := bt_at a0 (ji3)
          replace p6 := eq_true p6
          replace q6 := eq_true q6
          go_enter Tryd.func24, Tryd.ntmps24
          go_wp2
          go_ret
          exact ⟨by first | rfl | (simp; done) | (simp only [← hji3] <;> (first | rfl | simp)) | (simp [*]; done), by repeat (first | exact Drawn0.refl _ | apply Drawn0.step)⟩
      · rw [if_neg c5] at H
        exact absurd H (by simp)
    · rw [if_neg c4] at H
      exact absurd H (by simp)
  · rw [if_neg c2] at H
    have c2b0 : decide (3 < (a0.size : Int)) = false := decide_eq_false c2
    have c2b1 : decide (3 < a0.size) = false := decide_eq_false (by omega)
    clear c2
    obtain rfl := Option.some.inj H
    go_enter Tryd.func24, Tryd.ntmps24
    go_wp2
    go_ret
    exact ⟨by first | rfl | (simp; done) | (simp [*]; done), by repeat (first | exact Drawn0.refl _ | apply Drawn0.step)⟩

end Go.Proofs.YtikgnlgmidbclaaDoor.PFnModulePath
