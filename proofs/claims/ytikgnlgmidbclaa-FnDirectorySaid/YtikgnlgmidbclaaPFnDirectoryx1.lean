-- PRINTED BY print.sh 35421559b90ae4d0a3588c463048766b98c2df88dd9212a6774a882060cdf62d: not written by this session
import Derived.Test.YtikgnlgmidbclaaPFnDirectoryx0
namespace Go.Proofs.Ytikgnlgmidbclaa.PFnDirectory
open Go.RowKit Go.Proofs.YtikgnlgmidbclaaW.PrintWords Go.Proofs.YtikgnlgmidbclaaW.PrintLast Go.Proofs.YtikgnlgmidbclaaW.PrintMore
attribute [local go_sem] max2_int min2_int max_two min_two max_three min_three max_four min_four   -- for this text's walks alone
set_option linter.unusedVariables false
set_option linter.unusedSimpArgs false

/-! ### stringslite_HasPrefix: function 7 -/
def stringslite_HasPrefix.f (a0 : ByteArray) (a1 : ByteArray) : Option (Bool) := if (a0.size : Int) ≥ (a1.size : Int) then (if 0 ≤ (a1.size : Int) then (if (a1.size : Int) ≤ (a0.size : Int) then (some ((a0.extract 0 ((a1.size : Int) : Int).toNat).toList == a1.toList)) else (none)) else (none)) else (some false)
set_option maxHeartbeats 8000000 in
set_option maxRecDepth 100000 in
theorem stringslite_HasPrefix.calls (a0 : ByteArray) (a1 : ByteArray) (r : Bool) (w : World) (h : stringslite_HasPrefix.f a0 a1 = some r) :
    Calls Try.prog 7 #[.string a0, .string a1] w fun e w' => e = .returned (.bool r) ∧ Drawn0 w w' := by
  have H : (if (a0.size : Int) ≥ (a1.size : Int) then (if 0 ≤ (a1.size : Int) then (if (a1.size : Int) ≤ (a0.size : Int) then (some ((a0.extract 0 ((a1.size : Int) : Int).toNat).toList == a1.toList)) else (none)) else (none)) else (some false)) = some r := h
  clear h
  by_cases c3 : (a0.size : Int) ≥ (a1.size : Int)
  · rw [if_pos c3] at H
    have c3b0 : decide ((a1.size : Int) ≤ (a0.size : Int)) = true := decide_eq_true c3
    have c3b1 : decide (a1.size ≤ a0.size) = true := decide_eq_true (Int.ofNat_le.mp c3)
    clear c3
    by_cases c4 : 0 ≤ (a1.size : Int)
    · rw [if_pos c4] at H
      have c4b0 := eq_true c4
      have c4b1 : decide (0 ≤ (a1.size : Int)) = true := decide_eq_true c4
      clear c4
      by_cases c5 : (a1.size : Int) ≤ (a0.size : Int)
      · rw [if_pos c5] at H
        have c5b0 := eq_true c5
        have c5b1 : decide ((a1.size : Int) ≤ (a0.size : Int)) = true := decide_eq_true c5
        clear c5
        obtain rfl := Option.some.inj H
        go_enter Try.func7, Try.ntmps7
        go_wp2
        go_ret
        exact ⟨by first | rfl | (simp; done) | (simp [*]; done), by repeat (first | exact Drawn0.refl _ | apply Drawn0.step)⟩
      · rw [if_neg c5] at H
        exact absurd H (by simp)
    · rw [if_neg c4] at H
      exact absurd H (by simp)
  · rw [if_neg c3] at H
    have c3b0 : decide ((a1.size : Int) ≤ (a0.size : Int)) = false := decide_eq_false c3
    have c3b1 : decide (a1.size ≤ a0.size) = false := decide_eq_false (fun h => c3 (Int.ofNat_le.mpr h))
    clear c3
    obtain rfl := Option.some.inj H
    go_enter Try.func7, Try.ntmps7
    go_wp2
    go_ret
    exact ⟨by first | rfl | (simp; done) | (simp [*]; done), by repeat (first | exact Drawn0.refl _ | apply Drawn0.step)⟩

/-! ### strings_HasPrefix: function 6 -/
def strings_HasPrefix.f (a0 : ByteArray) (a1 : ByteArray) : Option (Bool) := (stringslite_HasPrefix.f a0 a1).bind fun t101 => (some t101)
set_option maxHeartbeats 8000000 in
set_option maxRecDepth 100000 in
theorem strings_HasPrefix.calls (a0 : ByteArray) (a1 : ByteArray) (r : Bool) (w : World) (h : strings_HasPrefix.f a0 a1 = some r) :
    Calls Try.prog 6 #[.string a0, .string a1] w fun e w' => e = .returned (.bool r) ∧ Drawn0 w w' := by
  have H : ((stringslite_HasPrefix.f a0 a1).bind fun t101 => (some t101)) = some r := h
  clear h
  replace H := Option.bind_eq_some_iff.mp H
  obtain ⟨t101, A30, H⟩ := H
  replace H : (some t101) = some r := H
  have A3 := Aside0.mk A30
  clear A30
  obtain rfl := Option.some.inj H
  go_enter Try.func6, Try.ntmps6
  go_wp2_with (first | ((with_reducible refine gate_callee (f := 7) rfl ?_); refine goesL_ (some 7) rfl rfl Try.func7 (by kernel_rfl) rfl #[.string a0, .string a1] rfl (by (try simp only [List.map_toArray, List.map_cons, List.map_nil]); first | done | rfl | (simp only [List.length_drop, List.length_take]; rfl)) ?_; (with_reducible refine (stringslite_HasPrefix.calls a0 a1 t101 _ A3.out).mono ?_); rintro e w' ⟨rfl, ⟨nd, rfl⟩⟩; refine ⟨_, rfl, ?_⟩))
  go_ret
  exact ⟨by first | rfl | (simp; done) | (simp [*]; done), by repeat (first | exact Drawn0.refl _ | apply Drawn0.step)⟩

/-! ### modfile_IsDirectoryPath: function 5 -/
def modfile_IsDirectoryPath.f (a0 : ByteArray) : Option (Bool) := if a0.toList = ([46] : List UInt8) then (some true) else ((strings_HasPrefix.f a0 (⟨#[46, 47]⟩ : ByteArray)).bind fun t102 => (if t102 = true then (some true) else ((strings_HasPrefix.f a0 (⟨#[46, 92]⟩ : ByteArray)).bind fun t103 => (if t103 = true then (some true) else (if a0.toList = ([46, 46] : List UInt8) then (some true) else ((strings_HasPrefix.f a0 (⟨#[46, 46, 47]⟩ : ByteArray)).bind fun t104 => (if t104 = true then (some true) else ((strings_HasPrefix.f a0 (⟨#[46, 46, 92]⟩ : ByteArray)).bind fun t105 => (if t105 = true then (some true) else ((strings_HasPrefix.f a0 (⟨#[47]⟩ : ByteArray)).bind fun t106 => (if t106 = true then (some true) else ((strings_HasPrefix.f a0 (⟨#[92]⟩ : ByteArray)).bind fun t107 => (if t107 = true then (some true) else (if (a0.size : Int) ≥ 2 then (if 0 < (a0.size : Int) then (if 65 ≤ (bt a0 0) then (if (bt a0 0) ≤ 90 then (if 1 < (a0.size : Int) then (some ((bt a0 1) == 58)) else (none)) else (if 97 ≤ (bt a0 0) then (if (bt a0 0) ≤ 122 then (if 1 < (a0.size : Int) then (some ((bt a0 1) == 58)) else (none)) else (some false)) else (some false))) else (if 97 ≤ (bt a0 0) then (if (bt a0 0) ≤ 122 then (if 1 < (a0.size : Int) then (some ((bt a0 1) == 58)) else (none)) else (some false)) else (some false))) else (none)) else (some false)))))))))))))))
set_option maxHeartbeats 8000000 in
set_option maxRecDepth 100000 in
theorem modfile_IsDirectoryPath.calls (a0 : ByteArray) (r : Bool) (w : World) (h : modfile_IsDirectoryPath.f a0 = some r) :
    Calls Try.prog 5 #[.string a0] w fun e w' => e = .returned (.bool r) ∧ Drawn0 w w' := by
  have H : (if a0.toList = ([46] : List UInt8) then (some true) else ((strings_HasPrefix.f a0 (⟨#[46, 47]⟩ : ByteArray)).bind fun t102 => (if t102 = true then (some true) else ((strings_HasPrefix.f a0 (⟨#[46, 92]⟩ : ByteArray)).bind fun t103 => (if t103 = true then (some true) else (if a0.toList = ([46, 46] : List UInt8) then (some true) else ((strings_HasPrefix.f a0 (⟨#[46, 46, 47]⟩ : ByteArray)).bind fun t104 => (if t104 = true then (some true) else ((strings_HasPrefix.f a0 (⟨#[46, 46, 92]⟩ : ByteArray)).bind fun t105 => (if t105 = true then (some true) else ((strings_HasPrefix.f a0 (⟨#[47]⟩ : ByteArray)).bind fun t106 => (if t106 = true then (some true) else ((strings_HasPrefix.f a0 (⟨#[92]⟩ : ByteArray)).bind fun t107 => (if t107 = true then (some true) else (if (a0.size : Int) ≥ 2 then (if 0 < (a0.size : Int) then (if 65 ≤ (bt a0 0) then (if (bt a0 0) ≤ 90 then (if 1 < (a0.size : Int) then (some ((bt a0 1) == 58)) else (none)) else (if 97 ≤ (bt a0 0) then (if (bt a0 0) ≤ 122 then (if 1 < (a0.size : Int) then (some ((bt a0 1) == 58)) else (none)) else (some false)) else (some false))) else (if 97 ≤ (bt a0 0) then (if (bt a0 0) ≤ 122 then (if 1 < (a0.size : Int) then (some ((bt a0 1) == 58)) else (none)) else (some false)) else (some false))) else (none)) else (some false)))))))))))))))) = some r := h
  clear h
  by_cases c2 : a0.toList = ([46] : List UInt8)
  · rw [if_pos c2] at H
    have c2b0 : (a0.toList == ([46] : List UInt8)) = true := beq_iff_eq.mpr c2
    have c2b1 : (a0.toList != ([46] : List UInt8)) = false := bne_eq_false_iff_eq.mpr c2
    clear c2
    obtain rfl := Option.some.inj H
    go_enter Try.func5, Try.ntmps5
    go_wp2
    go_ret
    exact ⟨by first | rfl | (simp; done) | (simp [*]; done), by repeat (first | exact Drawn0.refl _ | apply Drawn0.step)⟩
  · rw [if_neg c2] at H
    have c2b0 : (a0.toList == ([46] : List UInt8)) = false := beq_eq_false_iff_ne.mpr c2
    have c2b1 : (a0.toList != ([46] : List UInt8)) = true := bne_iff_ne.mpr c2
    replace H := Option.bind_eq_some_iff.mp H
    obtain ⟨t102, A30, H⟩ := H
    replace H : (if t102 = true then (some true) else ((strings_HasPrefix.f a0 (⟨#[46, 92]⟩ : ByteArray)).bind fun t103 => (if t103 = true then (some true) else (if a0.toList = ([46, 46] : List UInt8) then (some true) else ((strings_HasPrefix.f a0 (⟨#[46, 46, 47]⟩ : ByteArray)).bind fun t104 => (if t104 = true then (some true) else ((strings_HasPrefix.f a0 (⟨#[46, 46, 92]⟩ : ByteArray)).bind fun t105 => (if t105 = true then (some true) else ((strings_HasPrefix.f a0 (⟨#[47]⟩ : ByteArray)).bind fun t106 => (if t106 = true then (some true) else ((strings_HasPrefix.f a0 (⟨#[92]⟩ : ByteArray)).bind fun t107 => (if t107 = true then (some true) else (if (a0.size : Int) ≥ 2 then (if 0 < (a0.size : Int) then (if 65 ≤ (bt a0 0) then (if (bt a0 0) ≤ 90 then (if 1 < (a0.size : Int) then (some ((bt a0 1) == 58)) else (none)) else (if 97 ≤ (bt a0 0) then (if (bt a0 0) ≤ 122 then (if 1 < (a0.size : Int) then (some ((bt a0 1) == 58)) else (none)) else (some false)) else (some false))) else (if 97 ≤ (bt a0 0) then (if (bt a0 0) ≤ 122 then (if 1 < (a0.size : Int) then (some ((bt a0 1) == 58)) else (none)) else (some false)) else (some false))) else (none)) else (some false)))))))))))))) = some r := H
    have A3 := Aside0.mk A30
    clear A30
    by_cases c4 : t102 = true
    · subst c4
      have H1 : (some true) = some r := by rw [if_pos rfl] at H; exact H
      clear H
      have H := H1
      clear H1
      obtain rfl := Option.some.inj H
      go_enter Try.func5, Try.ntmps5
      go_wp2_with (first | (go_at_call 6; (with_reducible refine (strings_HasPrefix.calls a0 (⟨#[46, 47]⟩ : ByteArray) true _ A3.out).mono ?_); rintro e w' ⟨rfl, ⟨nd, rfl⟩⟩))
      go_ret
      exact ⟨by first | rfl | (simp; done) | (simp [*]; done), by repeat (first | exact Drawn0.refl _ | apply Drawn0.step)⟩
    · replace c4 := Bool.eq_false_iff.mpr c4
      subst c4
      have H1 : ((strings_HasPrefix.f a0 (⟨#[46, 92]⟩ : ByteArray)).bind fun t103 => (if t103 = true then (some true) else (if a0.toList = ([46, 46] : List UInt8) then (some true) else ((strings_HasPrefix.f a0 (⟨#[46, 46, 47]⟩ : ByteArray)).bind fun t104 => (if t104 = true then (some true) else ((strings_HasPrefix.f a0 (⟨#[46, 46, 92]⟩ : ByteArray)).bind fun t105 => (if t105 = true then (some true) else ((strings_HasPrefix.f a0 (⟨#[47]⟩ : ByteArray)).bind fun t106 => (if t106 = true then (some true) else ((strings_HasPrefix.f a0 (⟨#[92]⟩ : ByteArray)).bind fun t107 => (if t107 = true then (some true) else (if (a0.size : Int) ≥ 2 then (if 0 < (a0.size : Int) then (if 65 ≤ (bt a0 0) then (if (bt a0 0) ≤ 90 then (if 1 < (a0.size : Int) then (some ((bt a0 1) == 58)) else (none)) else (if 97 ≤ (bt a0 0) then (if (bt a0 0) ≤ 122 then (if 1 < (a0.size : Int) then (some ((bt a0 1) == 58)) else (none)) else (some false)) else (some false))) else (if 97 ≤ (bt a0 0) then (if (bt a0 0) ≤ 122 then (if 1 < (a0.size : Int) then (some ((bt a0 1) == 58)) else (none)) else (some false)) else (some false))) else (none)) else (some false))))))))))))) = some r := by rw [if_neg (show ¬ (false = true) by decide)] at H; exact H
      clear H
      have H := H1
      clear H1
      replace H := Option.bind_eq_some_iff.mp H
      obtain ⟨t103, A50, H⟩ := H
      replace H : (if t103 = true then (some true) else (if a0.toList = ([46, 46] : List UInt8) then (some true) else ((strings_HasPrefix.f a0 (⟨#[46, 46, 47]⟩ : ByteArray)).bind fun t104 => (if t104 = true then (some true) else ((strings_HasPrefix.f a0 (⟨#[46, 46, 92]⟩ : ByteArray)).bind fun t105 => (if t105 = true then (some true) else ((strings_HasPrefix.f a0 (⟨#[47]⟩ : ByteArray)).bind fun t106 => (if t106 = true then (some true) else ((strings_HasPrefix.f a0 (⟨#[92]⟩ : ByteArray)).bind fun t107 => (if t107 = true then (some true) else (if (a0.size : Int) ≥ 2 then (if 0 < (a0.size : Int) then (if 65 ≤ (bt a0 0) then (if (bt a0 0) ≤ 90 then (if 1 < (a0.size : Int) then (some ((bt a0 1) == 58)) else (none)) else (if 97 ≤ (bt a0 0) then (if (bt a0 0) ≤ 122 then (if 1 < (a0.size : Int) then (some ((bt a0 1) == 58)) else (none)) else (some false)) else (some false))) else (if 97 ≤ (bt a0 0) then (if (bt a0 0) ≤ 122 then (if 1 < (a0.size : Int) then (some ((bt a0 1) == 58)) else (none)) else (some false)) else (some false))) else (none)) else (some false)))))))))))) = some r := H
      have A5 := Aside0.mk A50
      clear A50
      by_cases c6 : t103 = true
      · subst c6
        have H1 : (some true) = some r := by rw [if_pos rfl] at H; exact H
        clear H
        have H := H1
        clear H1
        obtain rfl := Option.some.inj H
        go_enter Try.func5, Try.ntmps5
        go_wp2_with (first | (go_at_call 6; (with_reducible refine (strings_HasPrefix.calls a0 (⟨#[46, 47]⟩ : ByteArray) false _ A3.out).mono ?_); rintro e w' ⟨rfl, ⟨nd, rfl⟩⟩) | (go_at_call 6; (with_reducible refine (strings_HasPrefix.calls a0 (⟨#[46, 92]⟩ : ByteArray) true _ A5.out).mono ?_); rintro e w' ⟨rfl, ⟨nd, rfl⟩⟩))
        go_ret
        exact ⟨by first | rfl | (simp; done) | (simp [*]; done), by repeat (first | exact Drawn0.refl _ | apply Drawn0.step)⟩
      · replace c6 := Bool.eq_false_iff.mpr c6
        subst c6
        have H1 : (if a0.toList = ([46, 46] : List UInt8) then (some true) else ((strings_HasPrefix.f a0 (⟨#[46, 46, 47]⟩ : ByteArray)).bind fun t104 => (if t104 = true then (some true) else ((strings_HasPrefix.f a0 (⟨#[46, 46, 92]⟩ : ByteArray)).bind fun t105 => (if t105 = true then (some true) else ((strings_HasPrefix.f a0 (⟨#[47]⟩ : ByteArray)).bind fun t106 => (if t106 = true then (some true) else ((strings_HasPrefix.f a0 (⟨#[92]⟩ : ByteArray)).bind fun t107 => (if t107 = true then (some true) else (if (a0.size : Int) ≥ 2 then (if 0 < (a0.size : Int) then (if 65 ≤ (bt a0 0) then (if (bt a0 0) ≤ 90 then (if 1 < (a0.size : Int) then (some ((bt a0 1) == 58)) else (none)) else (if 97 ≤ (bt a0 0) then (if (bt a0 0) ≤ 122 then (if 1 < (a0.size : Int) then (some ((bt a0 1) == 58)) else (none)) else (some false)) else (some false))) else (if 97 ≤ (bt a0 0) then (if (bt a0 0) ≤ 122 then (if 1 < (a0.size : Int) then (some ((bt a0 1) == 58)) else (none)) else (some false)) else (some false))) else (none)) else (some false))))))))))) = some r := by rw [if_neg (show ¬ (false = true) by decide)] at H; exact H
        clear H
        have H := H1
        clear H1
        by_cases c7 : a0.toList = ([46, 46] : List UInt8)
        · rw [if_pos c7] at H
          have c7b0 : (a0.toList == ([46, 46] : List UInt8)) = true := beq_iff_eq.mpr c7
          have c7b1 : (a0.toList != ([46, 46] : List UInt8)) = false := bne_eq_false_iff_eq.mpr c7
          clear c7
          obtain rfl := Option.some.inj H
          go_enter Try.func5, Try.ntmps5
          go_wp2_with (first | (go_at_call 6; (with_reducible refine (strings_HasPrefix.calls a0 (⟨#[46, 47]⟩ : ByteArray) false _ A3.out).mono ?_); rintro e w' ⟨rfl, ⟨nd, rfl⟩⟩) | (go_at_call 6; (with_reducible refine (strings_HasPrefix.calls a0 (⟨#[46, 92]⟩ : ByteArray) false _ A5.out).mono ?_); rintro e w' ⟨rfl, ⟨nd, rfl⟩⟩))
          go_ret
          exact ⟨by first | rfl | (simp; done) | (simp [*]; done), by repeat (first | exact Drawn0.refl _ | apply Drawn0.step)⟩
        · rw [if_neg c7] at H
          have c7b0 : (a0.toList == ([46, 46] : List UInt8)) = false := beq_eq_false_iff_ne.mpr c7
          have c7b1 : (a0.toList != ([46, 46] : List UInt8)) = true := bne_iff_ne.mpr c7
          replace H := Option.bind_eq_some_iff.mp H
          obtain ⟨t104, A80, H⟩ := H
          replace H : (if t104 = true then (some true) else ((strings_HasPrefix.f a0 (⟨#[46, 46, 92]⟩ : ByteArray)).bind fun t105 => (if t105 = true then (some true) else ((strings_HasPrefix.f a0 (⟨#[47]⟩ : ByteArray)).bind fun t106 => (if t106 = true then (some true) else ((strings_HasPrefix.f a0 (⟨#[92]⟩ : ByteArray)).bind fun t107 => (if t107 = true then (some true) else (if (a0.size : Int) ≥ 2 then (if 0 < (a0.size : Int) then (if 65 ≤ (bt a0 0) then (if (bt a0 0) ≤ 90 then (if 1 < (a0.size : Int) then (some ((bt a0 1) == 58)) else (none)) else (if 97 ≤ (bt a0 0) then (if (bt a0 0) ≤ 122 then (if 1 < (a0.size : Int) then (some ((bt a0 1) == 58)) else (none)) else (some false)) else (some false))) else (if 97 ≤ (bt a0 0) then (if (bt a0 0) ≤ 122 then (if 1 < (a0.size : Int) then (some ((bt a0 1) == 58)) else (none)) else (some false)) else (some false))) else (none)) else (some false))))))))) = some r := H
          have A8 := Aside0.mk A80
          clear A80
          by_cases c9 : t104 = true
          · subst c9
            have H1 : (some true) = some r := by rw [if_pos rfl] at H; exact H
            clear H
            have H := H1
            clear H1
            obtain rfl := Option.some.inj H
            go_enter Try.func5, Try.ntmps5
            go_wp2_with (first | (go_at_call 6; (with_reducible refine (strings_HasPrefix.calls a0 (⟨#[46, 47]⟩ : ByteArray) false _ A3.out).mono ?_); rintro e w' ⟨rfl, ⟨nd, rfl⟩⟩) | (go_at_call 6; (with_reducible refine (strings_HasPrefix.calls a0 (⟨#[46, 92]⟩ : ByteArray) false _ A5.out).mono ?_); rintro e w' ⟨rfl, ⟨nd, rfl⟩⟩) | (go_at_call 6; (with_reducible refine (strings_HasPrefix.calls a0 (⟨#[46, 46, 47]⟩ : ByteArray) true _ A8.out).mono ?_); rintro e w' ⟨rfl, ⟨nd, rfl⟩⟩))
            go_ret
            exact ⟨by first | rfl | (simp; done) | (simp [*]; done), by repeat (first | exact Drawn0.refl _ | apply Drawn0.step)⟩
          · replace c9 := Bool.eq_false_iff.mpr c9
            subst c9
            have H1 : ((strings_HasPrefix.f a0 (⟨#[46, 46, 92]⟩ : ByteArray)).bind fun t105 => (if t105 = true then (some true) else ((strings_HasPrefix.f a0 (⟨#[47]⟩ : ByteArray)).bind fun t106 => (if t106 = true then (some true) else ((strings_HasPrefix.f a0 (⟨#[92]⟩ : ByteArray)).bind fun t107 => (if t107 = true then (some true) else (if (a0.size : Int) ≥ 2 then (if 0 < (a0.size : Int) then (if 65 ≤ (bt a0 0) then (if (bt a0 0) ≤ 90 then (if 1 < (a0.size : Int) then (some ((bt a0 1) == 58)) else (none)) else (if 97 ≤ (bt a0 0) then (if (bt a0 0) ≤ 122 then (if 1 < (a0.size : Int) then (some ((bt a0 1) == 58)) else (none)) else (some false)) else (some false))) else (if 97 ≤ (bt a0 0) then (if (bt a0 0) ≤ 122 then (if 1 < (a0.size : Int) then (some ((bt a0 1) == 58)) else (none)) else (some false)) else (some false))) else (none)) else (some false)))))))) = some r := by rw [if_neg (show ¬ (false = true) by decide)] at H; exact H
            clear H
            have H := H1
            clear H1
            replace H := Option.bind_eq_some_iff.mp H
            obtain ⟨t105, A100, H⟩ := H
            replace H : (if t105 = true then (some true) else ((strings_HasPrefix.f a0 (⟨#[47]⟩ : ByteArray)).bind fun t106 => (if t106 = true then (some true) else ((strings_HasPrefix.f a0 (⟨#[92]⟩ : ByteArray)).bind fun t107 => (if t107 = true then (some true) else (if (a0.size : Int) ≥ 2 then (if 0 < (a0.size : Int) then (if 65 ≤ (bt a0 0) then (if (bt a0 0) ≤ 90 then (if 1 < (a0.size : Int) then (some ((bt a0 1) == 58)) else (none)) else (if 97 ≤ (bt a0 0) then (if (bt a0 0) ≤ 122 then (if 1 < (a0.size : Int) then (some ((bt a0 1) == 58)) else (none)) else (some false)) else (some false))) else (if 97 ≤ (bt a0 0) then (if (bt a0 0) ≤ 122 then (if 1 < (a0.size : Int) then (some ((bt a0 1) == 58)) else (none)) else (some false)) else (some false))) else (none)) else (some false))))))) = some r := H
            have A10 := Aside0.mk A100
            clear A100
            by_cases c11 : t105 = true
            · subst c11
              have H1 : (some true) = some r := by rw [if_pos rfl] at H; exact H
              clear H
              have H := H1
              clear H1
              obtain rfl := Option.some.inj H
              go_enter Try.func5, Try.ntmps5
              go_wp2_with (first | (go_at_call 6; (with_reducible refine (strings_HasPrefix.calls a0 (⟨#[46, 47]⟩ : ByteArray) false _ A3.out).mono ?_); rintro e w' ⟨rfl, ⟨nd, rfl⟩⟩) | (go_at_call 6; (with_reducible refine (strings_HasPrefix.calls a0 (⟨#[46, 92]⟩ : ByteArray) false _ A5.out).mono ?_); rintro e w' ⟨rfl, ⟨nd, rfl⟩⟩) | (go_at_call 6; (with_reducible refine (strings_HasPrefix.calls a0 (⟨#[46, 46, 47]⟩ : ByteArray) false _ A8.out).mono ?_); rintro e w' ⟨rfl, ⟨nd, rfl⟩⟩) | (go_at_call 6; (with_reducible refine (strings_HasPrefix.calls a0 (⟨#[46, 46, 92]⟩ : ByteArray) true _ A10.out).mono ?_); rintro e w' ⟨rfl, ⟨nd, rfl⟩⟩))
              go_ret
              exact ⟨by first | rfl | (simp; done) | (simp [*]; done), by repeat (first | exact Drawn0.refl _ | apply Drawn0.step)⟩
            · replace c11 := Bool.eq_false_iff.mpr c11
              subst c11
              have H1 : ((strings_HasPrefix.f a0 (⟨#[47]⟩ : ByteArray)).bind fun t106 => (if t106 = true then (some true) else ((strings_HasPrefix.f a0 (⟨#[92]⟩ : ByteArray)).bind fun t107 => (if t107 = true then (some true) else (if (a0.size : Int) ≥ 2 then (if 0 < (a0.size : Int) then (if 65 ≤ (bt a0 0) then (if (bt a0 0) ≤ 90 then (if 1 < (a0.size : Int) then (some ((bt a0 1) == 58)) else (none)) else (if 97 ≤ (bt a0 0) then (if (bt a0 0) ≤ 122 then (if 1 < (a0.size : Int) then (some ((bt a0 1) == 58)) else (none)) else (some false)) else (some false))) else (if 97 ≤ (bt a0 0) then (if (bt a0 0) ≤ 122 then (if 1 < (a0.size : Int) then (some ((bt a0 1) == 58)) else (none)) else (some false)) else (some false))) else (none)) else (some false)))))) = some r := by rw [if_neg (show ¬ (false = true) by decide)] at H; exact H
              clear H
              have H := H1
              clear H1
              replace H := Option.bind_eq_some_iff.mp H
              obtain ⟨t106, A120, H⟩ := H
              replace H : (if t106 = true then (some true) else ((strings_HasPrefix.f a0 (⟨#[92]⟩ : ByteArray)).bind fun t107 => (if t107 = true then (some true) else (if (a0.size : Int) ≥ 2 then (if 0 < (a0.size : Int) then (if 65 ≤ (bt a0 0) then (if (bt a0 0) ≤ 90 then (if 1 < (a0.size : Int) then (some ((bt a0 1) == 58)) else (none)) else (if 97 ≤ (bt a0 0) then (if (bt a0 0) ≤ 122 then (if 1 < (a0.size : Int) then (some ((bt a0 1) == 58)) else (none)) else (some false)) else (some false))) else (if 97 ≤ (bt a0 0) then (if (bt a0 0) ≤ 122 then (if 1 < (a0.size : Int) then (some ((bt a0 1) == 58)) else (none)) else (some false)) else (some false))) else (none)) else (some false))))) = some r := H
              have A12 := Aside0.mk A120
              clear A120
              by_cases c13 : t106 = true
              · subst c13
                have H1 : (some true) = some r := by rw [if_pos rfl] at H; exact H
                clear H
                have H := H1
                clear H1
                obtain rfl := Option.some.inj H
                go_enter Try.func5, Try.ntmps5
                go_wp2_with (first | (go_at_call 6; (with_reducible refine (strings_HasPrefix.calls a0 (⟨#[46, 47]⟩ : ByteArray) false _ A3.out).mono ?_); rintro e w' ⟨rfl, ⟨nd, rfl⟩⟩) | (go_at_call 6; (with_reducible refine (strings_HasPrefix.calls a0 (⟨#[46, 92]⟩ : ByteArray) false _ A5.out).mono ?_); rintro e w' ⟨rfl, ⟨nd, rfl⟩⟩) | (go_at_call 6; (with_reducible refine (strings_HasPrefix.calls a0 (⟨#[46, 46, 47]⟩ : ByteArray) false _ A8.out).mono ?_); rintro e w' ⟨rfl, ⟨nd, rfl⟩⟩) | (go_at_call 6; (with_reducible refine (strings_HasPrefix.calls a0 (⟨#[46, 46, 92]⟩ : ByteArray) false _ A10.out).mono ?_); rintro e w' ⟨rfl, ⟨nd, rfl⟩⟩) | (go_at_call 6; (with_reducible refine (strings_HasPrefix.calls a0 (⟨#[47]⟩ : ByteArray) true _ A12.out).mono ?_); rintro e w' ⟨rfl, ⟨nd, rfl⟩⟩))
                go_ret
                exact ⟨by first | rfl | (simp; done) | (simp [*]; done), by repeat (first | exact Drawn0.refl _ | apply Drawn0.step)⟩
              · replace c13 := Bool.eq_false_iff.mpr c13
                subst c13
                have H1 : ((strings_HasPrefix.f a0 (⟨#[92]⟩ : ByteArray)).bind fun t107 => (if t107 = true then (some true) else (if (a0.size : Int) ≥ 2 then (if 0 < (a0.size : Int) then (if 65 ≤ (bt a0 0) then (if (bt a0 0) ≤ 90 then (if 1 < (a0.size : Int) then (some ((bt a0 1) == 58)) else (none)) else (if 97 ≤ (bt a0 0) then (if (bt a0 0) ≤ 122 then (if 1 < (a0.size : Int) then (some ((bt a0 1) == 58)) else (none)) else (some false)) else (some false))) else (if 97 ≤ (bt a0 0) then (if (bt a0 0) ≤ 122 then (if 1 < (a0.size : Int) then (some ((bt a0 1) == 58)) else (none)) else (some false)) else (some false))) else (none)) else (some false)))) = some r := by rw [if_neg (show ¬ (false = true) by decide)] at H; exact H
                clear H
                have H := H1
                clear H1
                replace H := Option.bind_eq_some_iff.mp H
                obtain ⟨t107, A140, H⟩ := H
                replace H : (if t107 = true then (some true) else (if (a0.size : Int) ≥ 2 then (if 0 < (a0.size : Int) then (if 65 ≤ (bt a0 0) then (if (bt a0 0) ≤ 90 then (if 1 < (a0.size : Int) then (some ((bt a0 1) == 58)) else (none)) else (if 97 ≤ (bt a0 0) then (if (bt a0 0) ≤ 122 then (if 1 < (a0.size : Int) then (some ((bt a0 1) == 58)) else (none)) else (some false)) else (some false))) else (if 97 ≤ (bt a0 0) then (if (bt a0 0) ≤ 122 then (if 1 < (a0.size : Int) then (some ((bt a0 1) == 58)) else (none)) else (some false)) else (some false))) else (none)) else (some false))) = some r := H
                have A14 := Aside0.mk A140
                clear A140
                by_cases c15 : t107 = true
                · subst c15
                  have H1 : (some true) = some r := by rw [if_pos rfl] at H; exact H
                  clear H
                  have H := H1
                  clear H1
                  obtain rfl := Option.some.inj H
                  go_enter Try.func5, Try.ntmps5
                  go_wp2_with (first | (go_at_call 6; (with_reducible refine (strings_HasPrefix.calls a0 (⟨#[46, 47]⟩ : ByteArray) false _ A3.out).mono ?_); rintro e w' ⟨rfl, ⟨nd, rfl⟩⟩) | (go_at_call 6; (with_reducible refine (strings_HasPrefix.calls a0 (⟨#[46, 92]⟩ : ByteArray) false _ A5.out).mono ?_); rintro e w' ⟨rfl, ⟨nd, rfl⟩⟩) | (go_at_call 6; (with_reducible refine (strings_HasPrefix.calls a0 (⟨#[46, 46, 47]⟩ : ByteArray) false _ A8.out).mono ?_); rintro e w' ⟨rfl, ⟨nd, rfl⟩⟩) | (go_at_call 6; (with_reducible refine (strings_HasPrefix.calls a0 (⟨#[46, 46, 92]⟩ : ByteArray) false _ A10.out).mono ?_); rintro e w' ⟨rfl, ⟨nd, rfl⟩⟩) | (go_at_call 6; (with_reducible refine (strings_HasPrefix.calls a0 (⟨#[47]⟩ : ByteArray) false _ A12.out).mono ?_); rintro e w' ⟨rfl, ⟨nd, rfl⟩⟩) | (go_at_call 6; (with_reducible refine (strings_HasPrefix.calls a0 (⟨#[92]⟩ : ByteArray) true _ A14.out).mono ?_); rintro e w' ⟨rfl, ⟨nd, rfl⟩⟩))
                  go_ret
                  exact ⟨by first | rfl | (simp; done) | (simp [*]; done), by repeat (first | exact Drawn0.refl _ | apply Drawn0.step)⟩
                · replace c15 := Bool.eq_false_iff.mpr c15
                  subst c15
                  have H1 : (if (a0.size : Int) ≥ 2 then (if 0 < (a0.size : Int) then (if 65 ≤ (bt a0 0) then (if (bt a0 0) ≤ 90 then (if 1 < (a0.size : Int) then (some ((bt a0 1) == 58)) else (none)) else (if 97 ≤ (bt a0 0) then (if (bt a0 0) ≤ 122 then (if 1 < (a0.size : Int) then (some ((bt a0 1) == 58)) else (none)) else (some false)) else (some false))) else (if 97 ≤ (bt a0 0) then (if (bt a0 0) ≤ 122 then (if 1 < (a0.size : Int) then (some ((bt a0 1) == 58)) else (none)) else (some false)) else (some false))) else (none)) else (some false)) = some r := by rw [if_neg (show ¬ (false = true) by decide)] at H; exact H
                  clear H
                  have H := H1
                  clear H1
                  by_cases c16 : (a0.size : Int) ≥ 2
                  · rw [if_pos c16] at H
                    have c16b0 : decide (2 ≤ (a0.size : Int)) = true := decide_eq_true c16
                    have c16b1 : decide (2 ≤ a0.size) = true := decide_eq_true (by omega)
                    clear c16
                    by_cases c17 : 0 < (a0.size : Int)
                    · rw [if_pos c17] at H
                      have c17b0 : decide (0 < (a0.size : Int)) = true := decide_eq_true c17
                      have c17b1 : decide (0 < a0.size) = true := decide_eq_true (by omega)
                      clear c17
                      by_cases c19 : 65 ≤ (bt a0 0)
                      · rw [if_pos c19] at H
                        have c19b0 : decide (65 ≤ (bt a0 0)) = true := decide_eq_true c19
                        clear c19
                        by_cases c21 : (bt a0 0) ≤ 90
                        · rw [if_pos c21] at H
                          have c21b0 : decide ((bt a0 0) ≤ 90) = true := decide_eq_true c21
                          clear c21
                          by_cases c22 : 1 < (a0.size : Int)
                          · rw [if_pos c22] at H
                            have c22b0 : decide (1 < (a0.size : Int)) = true := decide_eq_true c22
                            have c22b1 : decide (1 < a0.size) = true := decide_eq_true (by omega)
                            clear c22
                            obtain rfl := Option.some.inj H
                            go_enter Try.func5, Try.ntmps5
                            go_wp2_with (first | (go_at_call 6; (with_reducible refine (strings_HasPrefix.calls a0 (⟨#[46, 47]⟩ : ByteArray) false _ A3.out).mono ?_); rintro e w' ⟨rfl, ⟨nd, rfl⟩⟩) | (go_at_call 6; (with_reducible refine (strings_HasPrefix.calls a0 (⟨#[46, 92]⟩ : ByteArray) false _ A5.out).mono ?_); rintro e w' ⟨rfl, ⟨nd, rfl⟩⟩) | (go_at_call 6; (with_reducible refine (strings_HasPrefix.calls a0 (⟨#[46, 46, 47]⟩ : ByteArray) false _ A8.out).mono ?_); rintro e w' ⟨rfl, ⟨nd, rfl⟩⟩) | (go_at_call 6; (with_reducible refine (strings_HasPrefix.calls a0 (⟨#[46, 46, 92]⟩ : ByteArray) false _ A10.out).mono ?_); rintro e w' ⟨rfl, ⟨nd, rfl⟩⟩) | (go_at_call 6; (with_reducible refine (strings_HasPrefix.calls a0 (⟨#[47]⟩ : ByteArray) false _ A12.out).mono ?_); rintro e w' ⟨rfl, ⟨nd, rfl⟩⟩) | (go_at_call 6; (with_reducible refine (strings_HasPrefix.calls a0 (⟨#[92]⟩ : ByteArray) false _ A14.out).mono ?_); rintro e w' ⟨rfl, ⟨nd, rfl⟩⟩; have p18 : 0 ≤ (0 : Int) := (by omega); have q18 : 0 < a0.size := (by have : (0 : Int) < (a0.size : Int) := of_decide_eq_true (by first | (with_reducible assumption) | assumption); omega); have hx18 : ∀ h : 0 < a0.size, ((a0[0]'h).toNat : Int) = bt a0 0 := bt_at a0 0; clear p18; have qi18 : (0 < (a0.size : Int)) = True := eq_true (of_decide_eq_true (by first | (with_reducible assumption) | assumption)); replace q18 := eq_true q18; have p20 : 0 ≤ (0 : Int) := (by omega); have q20 : 0 < a0.size := (by have : (0 : Int) < (a0.size : Int) := of_decide_eq_true (by first | (with_reducible assumption) | assumption); omega); have hx20 : ∀ h : 0 < a0.size, ((a0[0]'h).toNat : Int) = bt a0 0 := bt_at a0 0; clear p20; have qi20 : (0 < (a0.size : Int)) = True := eq_true (of_decide_eq_true (by first | (with_reducible assumption) | assumption)); replace q20 := eq_true q20; have p23 : 0 ≤ (1 : Int) := (by omega); have q23 : 1 < a0.size := (by have : (1 : Int) < (a0.size : Int) := of_decide_eq_true (by first | (with_reducible assumption) | assumption); omega); have hx23 : ∀ h : 1 < a0.size, ((a0[1]'h).toNat : Int) = bt a0 1 := bt_at a0 1; clear p23; have qi23 : (1 < (a0.size : Int)) = True := eq_true (of_decide_eq_true (by first | (with_reducible assumption) | assumption)); replace q23 := eq_true q23))
                            go_ret
                            exact ⟨by first | rfl | (simp; done) | (simp [*]; done), by repeat (first | exact Drawn0.refl _ | apply Drawn0.step)⟩
                          · rw [if_neg c22] at H
                            exact absurd H (by simp)
                        · rw [if_neg c21] at H
                          have c21b0 : decide ((bt a0 0) ≤ 90) = false := decide_eq_false c21
                          clear c21
                          by_cases c25 : 97 ≤ (bt a0 0)
                          · rw [if_pos c25] at H
                            have c25b0 : decide (97 ≤ (bt a0 0)) = true := decide_eq_true c25
                            clear c25
                            by_cases c27 : (bt a0 0) ≤ 122
                            · rw [if_pos c27] at H
                              have c27b0 : decide ((bt a0 0) ≤ 122) = true := decide_eq_true c27
                              clear c27
                              by_cases c28 : 1 < (a0.size : Int)
                              · rw [if_pos c28] at H
                                have c28b0 : decide (1 < (a0.size : Int)) = true := decide_eq_true c28
                                have c28b1 : decide (1 < a0.size) = true := decide_eq_true (by omega)
                                clear c28
                                obtain rfl := Option.some.inj H
                                go_enter Try.func5, Try.ntmps5
                                go_wp2_with (first | (go_at_call 6; (with_reducible refine (strings_HasPrefix.calls a0 (⟨#[46, 47]⟩ : ByteArray) false _ A3.out).mono ?_); rintro e w' ⟨rfl, ⟨nd, rfl⟩⟩) | (go_at_call 6; (with_reducible refine (strings_HasPrefix.calls a0 (⟨#[46, 92]⟩ : ByteArray) false _ A5.out).mono ?_); rintro e w' ⟨rfl, ⟨nd, rfl⟩⟩) | (go_at_call 6; (with_reducible refine (strings_HasPrefix.calls a0 (⟨#[46, 46, 47]⟩ : ByteArray) false _ A8.out).mono ?_); rintro e w' ⟨rfl, ⟨nd, rfl⟩⟩) | (go_at_call 6; (with_reducible refine (strings_HasPrefix.calls a0 (⟨#[46, 46, 92]⟩ : ByteArray) false _ A10.out).mono ?_); rintro e w' ⟨rfl, ⟨nd, rfl⟩⟩) | (go_at_call 6; (with_reducible refine (strings_HasPrefix.calls a0 (⟨#[47]⟩ : ByteArray) false _ A12.out).mono ?_); rintro e w' ⟨rfl, ⟨nd, rfl⟩⟩) | (go_at_call 6; (with_reducible refine (strings_HasPrefix.calls a0 (⟨#[92]⟩ : ByteArray) false _ A14.out).mono ?_); rintro e w' ⟨rfl, ⟨nd, rfl⟩⟩; have p18 : 0 ≤ (0 : Int) := (by omega); have q18 : 0 < a0.size := (by have : (0 : Int) < (a0.size : Int) := of_decide_eq_true (by first | (with_reducible assumption) | assumption); omega); have hx18 : ∀ h : 0 < a0.size, ((a0[0]'h).toNat : Int) = bt a0 0 := bt_at a0 0; clear p18; have qi18 : (0 < (a0.size : Int)) = True := eq_true (of_decide_eq_true (by first | (with_reducible assumption) | assumption)); replace q18 := eq_true q18; have p20 : 0 ≤ (0 : Int) := (by omega); have q20 : 0 < a0.size := (by have : (0 : Int) < (a0.size : Int) := of_decide_eq_true (by first | (with_reducible assumption) | assumption); omega); have hx20 : ∀ h : 0 < a0.size, ((a0[0]'h).toNat : Int) = bt a0 0 := bt_at a0 0; clear p20; have qi20 : (0 < (a0.size : Int)) = True := eq_true (of_decide_eq_true (by first | (with_reducible assumption) | assumption)); replace q20 := eq_true q20; have p24 : 0 ≤ (0 : Int) := (by omega); have q24 : 0 < a0.size := (by have : (0 : Int) < (a0.size : Int) := of_decide_eq_true (by first | (with_reducible assumption) | assumption); omega); have hx24 : ∀ h : 0 < a0.size, ((a0[0]'h).toNat : Int) = bt a0 0 := bt_at a0 0; clear p24; have qi24 : (0 < (a0.size : Int)) = True := eq_true (of_decide_eq_true (by first | (with_reducible assumption) | assumption)); replace q24 := eq_true q24; have p26 : 0 ≤ (0 : Int) := (by omega); have q26 : 0 < a0.size := (by have : (0 : Int) < (a0.size : Int) := of_decide_eq_true (by first | (with_reducible assumption) | assumption); omega); have hx26 : ∀ h : 0 < a0.size, ((a0[0]'h).toNat : Int) = bt a0 0 := bt_at a0 0; clear p26; have qi26 : (0 < (a0.size : Int)) = True := eq_true (of_decide_eq_true (by first | (with_reducible assumption) | assumption)); replace q26 := eq_true q26; have p29 : 0 ≤ (1 : Int) := (by omega); have q29 : 1 < a0.size := (by have : (1 : Int) < (a0.size : Int) := of_decide_eq_true (by first | (with_reducible assumption) | assumption); omega); have hx29 : ∀ h : 1 < a0.size, ((a0[1]'h).toNat : Int) = bt a0 1 := bt_at a0 1; clear p29; have qi29 : (1 < (a0.size : Int)) = True := eq_true (of_decide_eq_true (by first | (with_reducible assumption) | assumption)); replace q29 := eq_true q29))
                                go_ret
                                exact ⟨by first | rfl | (simp; done) | (simp [*]; done), by repeat (first | exact Drawn0.refl _ | apply Drawn0.step)⟩
                              · rw [if_neg c28] at H
                                exact absurd H (by simp)
                            · rw [if_neg c27] at H
                              have c27b0 : decide ((bt a0 0) ≤ 122) = false := decide_eq_false c27
                              clear c27
                              obtain rfl := Option.some.inj H
                              go_enter Try.func5, Try.ntmps5
                              go_wp2_with (first | (go_at_call 6; (with_reducible refine (strings_HasPrefix.calls a0 (⟨#[46, 47]⟩ : ByteArray) false _ A3.out).mono ?_); rintro e w' ⟨rfl, ⟨nd, rfl⟩⟩) | (go_at_call 6; (with_reducible refine (strings_HasPrefix.calls a0 (⟨#[46, 92]⟩ : ByteArray) false _ A5.out).mono ?_); rintro e w' ⟨rfl, ⟨nd, rfl⟩⟩) | (go_at_call 6; (with_reducible refine (strings_HasPrefix.calls a0 (⟨#[46, 46, 47]⟩ : ByteArray) false _ A8.out).mono ?_); rintro e w' ⟨rfl, ⟨nd, rfl⟩⟩) | (go_at_call 6; (with_reducible refine (strings_HasPrefix.calls a0 (⟨#[46, 46, 92]⟩ : ByteArray) false _ A10.out).mono ?_); rintro e w' ⟨rfl, ⟨nd, rfl⟩⟩) | (go_at_call 6; (with_reducible refine (strings_HasPrefix.calls a0 (⟨#[47]⟩ : ByteArray) false _ A12.out).mono ?_); rintro e w' ⟨rfl, ⟨nd, rfl⟩⟩) | (go_at_call 6; (with_reducible refine (strings_HasPrefix.calls a0 (⟨#[92]⟩ : ByteArray) false _ A14.out).mono ?_); rintro e w' ⟨rfl, ⟨nd, rfl⟩⟩; have p18 : 0 ≤ (0 : Int) := (by omega); have q18 : 0 < a0.size := (by have : (0 : Int) < (a0.size : Int) := of_decide_eq_true (by first | (with_reducible assumption) | assumption); omega); have hx18 : ∀ h : 0 < a0.size, ((a0[0]'h).toNat : Int) = bt a0 0 := bt_at a0 0; clear p18; have qi18 : (0 < (a0.size : Int)) = True := eq_true (of_decide_eq_true (by first | (with_reducible assumption) | assumption)); replace q18 := eq_true q18; have p20 : 0 ≤ (0 : Int) := (by omega); have q20 : 0 < a0.size := (by have : (0 : Int) < (a0.size : Int) := of_decide_eq_true (by first | (with_reducible assumption) | assumption); omega); have hx20 : ∀ h : 0 < a0.size, ((a0[0]'h).toNat : Int) = bt a0 0 := bt_at a0 0; clear p20; have qi20 : (0 < (a0.size : Int)) = True := eq_true (of_decide_eq_true (by first | (with_reducible assumption) | assumption)); replace q20 := eq_true q20; have p24 : 0 ≤ (0 : Int) := (by omega); have q24 : 0 < a0.size := (by have : (0 : Int) < (a0.size : Int) := of_decide_eq_true (by first | (with_reducible assumption) | assumption); omega); have hx24 : ∀ h : 0 < a0.size, ((a0[0]'h).toNat : Int) = bt a0 0 := bt_at a0 0; clear p24; have qi24 : (0 < (a0.size : Int)) = True := eq_true (of_decide_eq_true (by first | (with_reducible assumption) | assumption)); replace q24 := eq_true q24; have p26 : 0 ≤ (0 : Int) := (by omega); have q26 : 0 < a0.size := (by have : (0 : Int) < (a0.size : Int) := of_decide_eq_true (by first | (with_reducible assumption) | assumption); omega); have hx26 : ∀ h : 0 < a0.size, ((a0[0]'h).toNat : Int) = bt a0 0 := bt_at a0 0; clear p26; have qi26 : (0 < (a0.size : Int)) = True := eq_true (of_decide_eq_true (by first | (with_reducible assumption) | assumption)); replace q26 := eq_true q26))
                              go_ret
                              exact ⟨by first | rfl | (simp; done) | (simp [*]; done), by repeat (first | exact Drawn0.refl _ | apply Drawn0.step)⟩
                          · rw [if_neg c25] at H
                            have c25b0 : decide (97 ≤ (bt a0 0)) = false := decide_eq_false c25
                            clear c25
                            obtain rfl := Option.some.inj H
                            go_enter Try.func5, Try.ntmps5
                            go_wp2_with (first | (go_at_call 6; (with_reducible refine (strings_HasPrefix.calls a0 (⟨#[46, 47]⟩ : ByteArray) false _ A3.out).mono ?_); rintro e w' ⟨rfl, ⟨nd, rfl⟩⟩) | (go_at_call 6; (with_reducible refine (strings_HasPrefix.calls a0 (⟨#[46, 92]⟩ : ByteArray) false _ A5.out).mono ?_); rintro e w' ⟨rfl, ⟨nd, rfl⟩⟩) | (go_at_call 6; (with_reducible refine (strings_HasPrefix.calls a0 (⟨#[46, 46, 47]⟩ : ByteArray) false _ A8.out).mono ?_); rintro e w' ⟨rfl, ⟨nd, rfl⟩⟩) | (go_at_call 6; (with_reducible refine (strings_HasPrefix.calls a0 (⟨#[46, 46, 92]⟩ : ByteArray) false _ A10.out).mono ?_); rintro e w' ⟨rfl, ⟨nd, rfl⟩⟩) | (go_at_call 6; (with_reducible refine (strings_HasPrefix.calls a0 (⟨#[47]⟩ : ByteArray) false _ A12.out).mono ?_); rintro e w' ⟨rfl, ⟨nd, rfl⟩⟩) | (go_at_call 6; (with_reducible refine (strings_HasPrefix.calls a0 (⟨#[92]⟩ : ByteArray) false _ A14.out).mono ?_); rintro e w' ⟨rfl, ⟨nd, rfl⟩⟩; have p18 : 0 ≤ (0 : Int) := (by omega); have q18 : 0 < a0.size := (by have : (0 : Int) < (a0.size : Int) := of_decide_eq_true (by first | (with_reducible assumption) | assumption); omega); have hx18 : ∀ h : 0 < a0.size, ((a0[0]'h).toNat : Int) = bt a0 0 := bt_at a0 0; clear p18; have qi18 : (0 < (a0.size : Int)) = True := eq_true (of_decide_eq_true (by first | (with_reducible assumption) | assumption)); replace q18 := eq_true q18; have p20 : 0 ≤ (0 : Int) := (by omega); have q20 : 0 < a0.size := (by have : (0 : Int) < (a0.size : Int) := of_decide_eq_true (by first | (with_reducible assumption) | assumption); omega); have hx20 : ∀ h : 0 < a0.size, ((a0[0]'h).toNat : Int) = bt a0 0 := bt_at a0 0; clear p20; have qi20 : (0 < (a0.size : Int)) = True := eq_true (of_decide_eq_true (by first | (with_reducible assumption) | assumption)); replace q20 := eq_true q20; have p24 : 0 ≤ (0 : Int) := (by omega); have q24 : 0 < a0.size := (by have : (0 : Int) < (a0.size : Int) := of_decide_eq_true (by first | (with_reducible assumption) | assumption); omega); have hx24 : ∀ h : 0 < a0.size, ((a0[0]'h).toNat : Int) = bt a0 0 := bt_at a0 0; clear p24; have qi24 : (0 < (a0.size : Int)) = True := eq_true (of_decide_eq_true (by first | (with_reducible assumption) | assumption)); replace q24 := eq_true q24))
                            go_ret
                            exact ⟨by first | rfl | (simp; done) | (simp [*]; done), by repeat (first | exact Drawn0.refl _ | apply Drawn0.step)⟩
                      · rw [if_neg c19] at H
                        have c19b0 : decide (65 ≤ (bt a0 0)) = false := decide_eq_false c19
                        clear c19
                        by_cases c31 : 97 ≤ (bt a0 0)
                        · rw [if_pos c31] at H
                          have c31b0 : decide (97 ≤ (bt a0 0)) = true := decide_eq_true c31
                          clear c31
                          by_cases c33 : (bt a0 0) ≤ 122
                          · rw [if_pos c33] at H
                            have c33b0 : decide ((bt a0 0) ≤ 122) = true := decide_eq_true c33
                            clear c33
                            by_cases c34 : 1 < (a0.size : Int)
                            · rw [if_pos c34] at H
                              have c34b0 : decide (1 < (a0.size : Int)) = true := decide_eq_true c34
                              have c34b1 : decide (1 < a0.size) = true := decide_eq_true (by omega)
                              clear c34
                              obtain rfl := Option.some.inj H
                              go_enter Try.func5, Try.ntmps5
                              go_wp2_with (first | (go_at_call 6; (with_reducible refine (strings_HasPrefix.calls a0 (⟨#[46, 47]⟩ : ByteArray) false _ A3.out).mono ?_); rintro e w' ⟨rfl, ⟨nd, rfl⟩⟩) | (go_at_call 6; (with_reducible refine (strings_HasPrefix.calls a0 (⟨#[46, 92]⟩ : ByteArray) false _ A5.out).mono ?_); rintro e w' ⟨rfl, ⟨nd, rfl⟩⟩) | (go_at_call 6; (with_reducible refine (strings_HasPrefix.calls a0 (⟨#[46, 46, 47]⟩ : ByteArray) false _ A8.out).mono ?_); rintro e w' ⟨rfl, ⟨nd, rfl⟩⟩) | (go_at_call 6; (with_reducible refine (strings_HasPrefix.calls a0 (⟨#[46, 46, 92]⟩ : ByteArray) false _ A10.out).mono ?_); rintro e w' ⟨rfl, ⟨nd, rfl⟩⟩) | (go_at_call 6; (with_reducible refine (strings_HasPrefix.calls a0 (⟨#[47]⟩ : ByteArray) false _ A12.out).mono ?_); rintro e w' ⟨rfl, ⟨nd, rfl⟩⟩) | (go_at_call 6; (with_reducible refine (strings_HasPrefix.calls a0 (⟨#[92]⟩ : ByteArray) false _ A14.out).mono ?_); rintro e w' ⟨rfl, ⟨nd, rfl⟩⟩; have p18 : 0 ≤ (0 : Int) := (by omega); have q18 : 0 < a0.size := (by have : (0 : Int) < (a0.size : Int) := of_decide_eq_true (by first | (with_reducible assumption) | assumption); omega); have hx18 : ∀ h : 0 < a0.size, ((a0[0]'h).toNat : Int) = bt a0 0 := bt_at a0 0; clear p18; have qi18 : (0 < (a0.size : Int)) = True := eq_true (of_decide_eq_true (by first | (with_reducible assumption) | assumption)); replace q18 := eq_true q18; have p30 : 0 ≤ (0 : Int) := (by omega); have q30 : 0 < a0.size := (by have : (0 : Int) < (a0.size : Int) := of_decide_eq_true (by first | (with_reducible assumption) | assumption); omega); have hx30 : ∀ h : 0 < a0.size, ((a0[0]'h).toNat : Int) = bt a0 0 := bt_at a0 0; clear p30; have qi30 : (0 < (a0.size : Int)) = True := eq_true (of_decide_eq_true (by first | (with_reducible assumption) | assumption)); replace q30 := eq_true q30; have p32 : 0 ≤ (0 : Int) := (by omega); have q32 : 0 < a0.size := (by have : (0 : Int) < (a0.size : Int) := of_decide_eq_true (by first | (with_reducible assumption) | assumption); omega); have hx32 : ∀ h : 0 < a0.size, ((a0[0]'h).toNat : Int) = bt a0 0 := bt_at a0 0; clear p32; have qi32 : (0 < (a0.size : Int)) = True := eq_true (of_decide_eq_true (by first | (with_reducible assumption) | assumption)); replace q32 := eq_true q32; have p35 : 0 ≤ (1 : Int) := (by omega); have q35 : 1 < a0.size := (by have : (1 : Int) < (a0.size : Int) := of_decide_eq_true (by first | (with_reducible assumption) | assumption); omega); have hx35 : ∀ h : 1 < a0.size, ((a0[1]'h).toNat : Int) = bt a0 1 := bt_at a0 1; clear p35; have qi35 : (1 < (a0.size : Int)) = True := eq_true (of_decide_eq_true (by first | (with_reducible assumption) | assumption)); replace q35 := eq_true q35))
                              go_ret
                              exact ⟨by first | rfl | (simp; done) | (simp [*]; done), by repeat (first | exact Drawn0.refl _ | apply Drawn0.step)⟩
                            · rw [if_neg c34] at H
                              exact absurd H (by simp)
                          · rw [if_neg c33] at H
                            have c33b0 : decide ((bt a0 0) ≤ 122) = false := decide_eq_false c33
                            clear c33
                            obtain rfl := Option.some.inj H
                            go_enter Try.func5, Try.ntmps5
                            go_wp2_with (first | (go_at_call 6; (with_reducible refine (strings_HasPrefix.calls a0 (⟨#[46, 47]⟩ : ByteArray) false _ A3.out).mono ?_); rintro e w' ⟨rfl, ⟨nd, rfl⟩⟩) | (go_at_call 6; (with_reducible refine (strings_HasPrefix.calls a0 (⟨#[46, 92]⟩ : ByteArray) false _ A5.out).mono ?_); rintro e w' ⟨rfl, ⟨nd, rfl⟩⟩) | (go_at_call 6; (with_reducible refine (strings_HasPrefix.calls a0 (⟨#[46, 46, 47]⟩ : ByteArray) false _ A8.out).mono ?_); rintro e w' ⟨rfl, ⟨nd, rfl⟩⟩) | (go_at_call 6; (with_reducible refine (strings_HasPrefix.calls a0 (⟨#[46, 46, 92]⟩ : ByteArray) false _ A10.out).mono ?_); rintro e w' ⟨rfl, ⟨nd, rfl⟩⟩) | (go_at_call 6; (with_reducible refine (strings_HasPrefix.calls a0 (⟨#[47]⟩ : ByteArray) false _ A12.out).mono ?_); rintro e w' ⟨rfl, ⟨nd, rfl⟩⟩) | (go_at_call 6; (with_reducible refine (strings_HasPrefix.calls a0 (⟨#[92]⟩ : ByteArray) false _ A14.out).mono ?_); rintro e w' ⟨rfl, ⟨nd, rfl⟩⟩; have p18 : 0 ≤ (0 : Int) := (by omega); have q18 : 0 < a0.size := (by have : (0 : Int) < (a0.size : Int) := of_decide_eq_true (by first | (with_reducible assumption) | assumption); omega); have hx18 : ∀ h : 0 < a0.size, ((a0[0]'h).toNat : Int) = bt a0 0 := bt_at a0 0; clear p18; have qi18 : (0 < (a0.size : Int)) = True := eq_true (of_decide_eq_true (by first | (with_reducible assumption) | assumption)); replace q18 := eq_true q18; have p30 : 0 ≤ (0 : Int) := (by omega); have q30 : 0 < a0.size := (by have : (0 : Int) < (a0.size : Int) := of_decide_eq_true (by first | (with_reducible assumption) | assumption); omega); have hx30 : ∀ h : 0 < a0.size, ((a0[0]'h).toNat : Int) = bt a0 0 := bt_at a0 0; clear p30; have qi30 : (0 < (a0.size : Int)) = True := eq_true (of_decide_eq_true (by first | (with_reducible assumption) | assumption)); replace q30 := eq_true q30; have p32 : 0 ≤ (0 : Int) := (by omega); have q32 : 0 < a0.size := (by have : (0 : Int) < (a0.size : Int) := of_decide_eq_true (by first | (with_reducible assumption) | assumption); omega); have hx32 : ∀ h : 0 < a0.size, ((a0[0]'h).toNat : Int) = bt a0 0 := bt_at a0 0; clear p32; have qi32 : (0 < (a0.size : Int)) = True := eq_true (of_decide_eq_true (by first | (with_reducible assumption) | assumption)); replace q32 := eq_true q32))
                            go_ret
                            exact ⟨by first | rfl | (simp; done) | (simp [*]; done), by repeat (first | exact Drawn0.refl _ | apply Drawn0.step)⟩
                        · rw [if_neg c31] at H
                          have c31b0 : decide (97 ≤ (bt a0 0)) = false := decide_eq_false c31
                          clear c31
                          obtain rfl := Option.some.inj H
                          go_enter Try.func5, Try.ntmps5
                          go_wp2_with (first | (go_at_call 6; (with_reducible refine (strings_HasPrefix.calls a0 (⟨#[46, 47]⟩ : ByteArray) false _ A3.out).mono ?_); rintro e w' ⟨rfl, ⟨nd, rfl⟩⟩) | (go_at_call 6; (with_reducible refine (strings_HasPrefix.calls a0 (⟨#[46, 92]⟩ : ByteArray) false _ A5.out).mono ?_); rintro e w' ⟨rfl, ⟨nd, rfl⟩⟩) | (go_at_call 6; (with_reducible refine (strings_HasPrefix.calls a0 (⟨#[46, 46, 47]⟩ : ByteArray) false _ A8.out).mono ?_); rintro e w' ⟨rfl, ⟨nd, rfl⟩⟩) | (go_at_call 6; (with_reducible refine (strings_HasPrefix.calls a0 (⟨#[46, 46, 92]⟩ : ByteArray) false _ A10.out).mono ?_); rintro e w' ⟨rfl, ⟨nd, rfl⟩⟩) | (go_at_call 6; (with_reducible refine (strings_HasPrefix.calls a0 (⟨#[47]⟩ : ByteArray) false _ A12.out).mono ?_); rintro e w' ⟨rfl, ⟨nd, rfl⟩⟩) | (go_at_call 6; (with_reducible refine (strings_HasPrefix.calls a0 (⟨#[92]⟩ : ByteArray) false _ A14.out).mono ?_); rintro e w' ⟨rfl, ⟨nd, rfl⟩⟩; have p18 : 0 ≤ (0 : Int) := (by omega); have q18 : 0 < a0.size := (by have : (0 : Int) < (a0.size : Int) := of_decide_eq_true (by first | (with_reducible assumption) | assumption); omega); have hx18 : ∀ h : 0 < a0.size, ((a0[0]'h).toNat : Int) = bt a0 0 := bt_at a0 0; clear p18; have qi18 : (0 < (a0.size : Int)) = True := eq_true (of_decide_eq_true (by first | (with_reducible assumption) | assumption)); replace q18 := eq_true q18; have p30 : 0 ≤ (0 : Int) := (by omega); have q30 : 0 < a0.size := (by have : (0 : Int) < (a0.size : Int) := of_decide_eq_true (by first | (with_reducible assumption) | assumption); omega); have hx30 : ∀ h : 0 < a0.size, ((a0[0]'h).toNat : Int) = bt a0 0 := bt_at a0 0; clear p30; have qi30 : (0 < (a0.size : Int)) = True := eq_true (of_decide_eq_true (by first | (with_reducible assumption) | assumption)); replace q30 := eq_true q30))
                          go_ret
                          exact ⟨by first | rfl | (simp; done) | (simp [*]; done), by repeat (first | exact Drawn0.refl _ | apply Drawn0.step)⟩
                    · rw [if_neg c17] at H
                      exact absurd H (by simp)
                  · rw [if_neg c16] at H
                    have c16b0 : decide (2 ≤ (a0.size : Int)) = false := decide_eq_false c16
                    have c16b1 : decide (2 ≤ a0.size) = false := decide_eq_false (by omega)
                    clear c16
                    obtain rfl := Option.some.inj H
                    go_enter Try.func5, Try.ntmps5
                    go_wp2_with (first | (go_at_call 6; (with_reducible refine (strings_HasPrefix.calls a0 (⟨#[46, 47]⟩ : ByteArray) false _ A3.out).mono ?_); rintro e w' ⟨rfl, ⟨nd, rfl⟩⟩) | (go_at_call 6; (with_reducible refine (strings_HasPrefix.calls a0 (⟨#[46, 92]⟩ : ByteArray) false _ A5.out).mono ?_); rintro e w' ⟨rfl, ⟨nd, rfl⟩⟩) | (go_at_call 6; (with_reducible refine (strings_HasPrefix.calls a0 (⟨#[46, 46, 47]⟩ : ByteArray) false _ A8.out).mono ?_); rintro e w' ⟨rfl, ⟨nd, rfl⟩⟩) | (go_at_call 6; (with_reducible refine (strings_HasPrefix.calls a0 (⟨#[46, 46, 92]⟩ : ByteArray) false _ A10.out).mono ?_); rintro e w' ⟨rfl, ⟨nd, rfl⟩⟩) | (go_at_call 6; (with_reducible refine (strings_HasPrefix.calls a0 (⟨#[47]⟩ : ByteArray) false _ A12.out).mono ?_); rintro e w' ⟨rfl, ⟨nd, rfl⟩⟩) | (go_at_call 6; (with_reducible refine (strings_HasPrefix.calls a0 (⟨#[92]⟩ : ByteArray) false _ A14.out).mono ?_); rintro e w' ⟨rfl, ⟨nd, rfl⟩⟩))
                    go_ret
                    exact ⟨by first | rfl | (simp; done) | (simp [*]; done), by repeat (first | exact Drawn0.refl _ | apply Drawn0.step)⟩

/-! ### impl_IsDirectoryPath: function 4 -/
def impl_IsDirectoryPath.f (a0 : ByteArray) : Option (Bool) := (modfile_IsDirectoryPath.f a0).bind fun t108 => (some t108)
set_option maxHeartbeats 8000000 in
set_option maxRecDepth 100000 in
theorem impl_IsDirectoryPath.calls (a0 : ByteArray) (r : Bool) (w : World) (h : impl_IsDirectoryPath.f a0 = some r) :
    Calls Try.prog 4 #[.string a0] w fun e w' => e = .returned (.bool r) ∧ Drawn0 w w' := by
  have H : ((modfile_IsDirectoryPath.f a0).bind fun t108 => (some t108)) = some r := h
  clear h
  replace H := Option.bind_eq_some_iff.mp H
  obtain ⟨t108, A20, H⟩ := H
  replace H : (some t108) = some r := H
  have A2 := Aside0.mk A20
  clear A20
  obtain rfl := Option.some.inj H
  go_enter Try.func4, Try.ntmps4
  go_wp2_with (first | ((with_reducible refine gate_callee (f := 5) rfl ?_); refine goesL_ (some 4) rfl rfl Try.func5 (by kernel_rfl) rfl #[.string a0] rfl (by (try simp only [List.map_toArray, List.map_cons, List.map_nil]); first | done | rfl | (simp only [List.length_drop, List.length_take]; rfl)) ?_; (with_reducible refine (modfile_IsDirectoryPath.calls a0 t108 _ A2.out).mono ?_); rintro e w' ⟨rfl, ⟨nd, rfl⟩⟩; refine ⟨_, rfl, ?_⟩))
  go_ret
  exact ⟨by first | rfl | (simp; done) | (simp [*]; done), by repeat (first | exact Drawn0.refl _ | apply Drawn0.step)⟩

end Go.Proofs.Ytikgnlgmidbclaa.PFnDirectory
