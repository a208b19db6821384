/- The walks of spec.pathOk, figures and goOk: each answers what its Lean function answers. Condition: that function answers. (Began as a text of print.sh.) -/
import Derived.Test.YtikgnlgmidbclaaDoorO0
import Derived.Test.YtikgnlgmidbclaaDoorO1
import Derived.Test.YtikgnlgmidbclaaDoorO2
namespace Go.Proofs.YtikgnlgmidbclaaDoor.PFnModulePath
open Go.RowKit Go.Proofs.YtikgnlgmidbclaaDoorW.PrintWords Go.Proofs.YtikgnlgmidbclaaDoorW.PrintLast Go.Proofs.YtikgnlgmidbclaaDoorW.PrintMore
attribute [local go_sem] max2_int min2_int max_two min_two max_three min_three max_four min_four   -- for this text's walks alone
set_option linter.unusedVariables false
set_option linter.unusedSimpArgs false

/-! ### spec_pathOk: function 20 -/
mutual
def spec_pathOk.j0 : Nat → ByteArray → Bool → Option (Bool)
  | 0, _, _ => none
  | k + 1, x0, x19 => if x19 = true then (some false) else (if 11 ≤ (x0.size : Int) then (spec_pathOk.l0 k x0 0 0 (x0.extract 11 x0.size) 0) else (none))
def spec_pathOk.l0 : Nat → ByteArray → Int → Int → ByteArray → Int → Option (Bool)
  | 0, _, _, _, _, _ => none
  | k + 1, x0, x3, x4, x5, x6 => if x6 ≤ (x5.size : Int) then (if x6 < (x5.size : Int) then (if 0 ≤ x6 then (spec_pathOk.j2 k x0 x3 x4 x5 x6 ((bt x5 x6) != 47)) else (none)) else (spec_pathOk.j2 k x0 x3 x4 x5 x6 false)) else (if 0 < (x5.size : Int) then (if (bt x5 0) = 47 then (if x3 ≥ 1 then (if x3 ≤ 4 then ((spec_Major.f x0).bind fun t116 => (some (t116 != 1))) else (some false)) else (some false)) else (some false)) else (none))
def spec_pathOk.j2 : Nat → ByteArray → Int → Int → ByteArray → Int → Bool → Option (Bool)
  | 0, _, _, _, _, _, _ => none
  | k + 1, x0, x3, x4, x5, x6, x37 => if x37 = true then (spec_pathOk.l0 k x0 x3 x4 x5 (wrap64 (x6 + 1))) else (if x6 > x4 then (if 0 ≤ x4 then (if x4 ≤ x6 then (if x6 ≤ (x5.size : Int) then ((spec_wordOk.f k (x5.extract (x4 : Int).toNat (x6 : Int).toNat)).bind fun t117 => (if t117 = true then (spec_pathOk.l0 k x0 (wrap64 (x3 + 1)) (wrap64 (x6 + 1)) x5 (wrap64 (x6 + 1))) else (some false))) else (none)) else (none)) else (none)) else (if x6 > 0 then (some false) else (spec_pathOk.l0 k x0 x3 (wrap64 (x6 + 1)) x5 (wrap64 (x6 + 1)))))
end
def spec_pathOk.f (k : Nat) (a0 : ByteArray) : Option (Bool) := if (a0.size : Int) ≤ 11 then (spec_pathOk.j0 k a0 true) else (if 0 ≤ 11 then (if 11 ≤ (a0.size : Int) then (if (a0.extract 0 11).toList = ([101, 120, 97, 109, 112, 108, 101, 46, 99, 111, 109] : List UInt8) then (spec_pathOk.j0 k a0 (decide ((a0.size : Int) > 50))) else (spec_pathOk.j0 k a0 true)) else (none)) else (none))
theorem spec_pathOk.mono_l : ∀ k, (∀ y0 y1, LeO (spec_pathOk.j0 k y0 y1) (spec_pathOk.j0 (k + 1) y0 y1)) ∧ (∀ y0 y1 y2 y3 y4, LeO (spec_pathOk.l0 k y0 y1 y2 y3 y4) (spec_pathOk.l0 (k + 1) y0 y1 y2 y3 y4)) ∧ (∀ y0 y1 y2 y3 y4 y5, LeO (spec_pathOk.j2 k y0 y1 y2 y3 y4 y5) (spec_pathOk.j2 (k + 1) y0 y1 y2 y3 y4 y5))
  | 0 => ⟨fun _ _ r h => by simp [spec_pathOk.j0] at h, fun _ _ _ _ _ r h => by simp [spec_pathOk.l0] at h, fun _ _ _ _ _ _ r h => by simp [spec_pathOk.j2] at h⟩
  | k + 1 => by
    obtain ⟨ih0, ih1, ih2⟩ := spec_pathOk.mono_l k
    refine ⟨?_, ?_, ?_⟩
    · intro y0 y1
      unfold spec_pathOk.j0
      repeat' first
      | (with_reducible exact ih0 _ _)
      | (with_reducible exact ih1 _ _ _ _ _)
      | (with_reducible exact ih2 _ _ _ _ _ _)
      | (with_reducible exact spec_wordOk.mono _ _)
      | (with_reducible exact LeO.refl _)
      | (with_reducible exact LeO.none _)
      | (with_reducible refine LeO.ite ?_ ?_)
      | (with_reducible refine LeO.bind ?_ (fun _ => ?_))
      | exact ih0 _ _
      | exact ih1 _ _ _ _ _
      | exact ih2 _ _ _ _ _ _
      | exact spec_wordOk.mono _ _
      | exact LeO.none _
      | refine LeO.ite ?_ ?_
      | refine LeO.bind ?_ (fun _ => ?_)
    · intro y0 y1 y2 y3 y4
      unfold spec_pathOk.l0
      repeat' first
      | (with_reducible exact ih0 _ _)
      | (with_reducible exact ih1 _ _ _ _ _)
      | (with_reducible exact ih2 _ _ _ _ _ _)
      | (with_reducible exact spec_wordOk.mono _ _)
      | (with_reducible exact LeO.refl _)
      | (with_reducible exact LeO.none _)
      | (with_reducible refine LeO.ite ?_ ?_)
      | (with_reducible refine LeO.bind ?_ (fun _ => ?_))
      | exact ih0 _ _
      | exact ih1 _ _ _ _ _
      | exact ih2 _ _ _ _ _ _
      | exact spec_wordOk.mono _ _
      | exact LeO.none _
      | refine LeO.ite ?_ ?_
      | refine LeO.bind ?_ (fun _ => ?_)
    · intro y0 y1 y2 y3 y4 y5
      unfold spec_pathOk.j2
      repeat' first
      | (with_reducible exact ih0 _ _)
      | (with_reducible exact ih1 _ _ _ _ _)
      | (with_reducible exact ih2 _ _ _ _ _ _)
      | (with_reducible exact spec_wordOk.mono _ _)
      | (with_reducible exact LeO.refl _)
      | (with_reducible exact LeO.none _)
      | (with_reducible refine LeO.ite ?_ ?_)
      | (with_reducible refine LeO.bind ?_ (fun _ => ?_))
      | exact ih0 _ _
      | exact ih1 _ _ _ _ _
      | exact ih2 _ _ _ _ _ _
      | exact spec_wordOk.mono _ _
      | exact LeO.none _
      | refine LeO.ite ?_ ?_
      | refine LeO.bind ?_ (fun _ => ?_)
theorem spec_pathOk.mono : ∀ a0 k, LeO (spec_pathOk.f k a0) (spec_pathOk.f (k + 1) a0) := by
  intro a0 k
  obtain ⟨ih0, ih1, ih2⟩ := spec_pathOk.mono_l k
  unfold spec_pathOk.f
  repeat' first
      | (with_reducible exact ih0 _ _)
      | (with_reducible exact ih1 _ _ _ _ _)
      | (with_reducible exact ih2 _ _ _ _ _ _)
      | (with_reducible exact spec_wordOk.mono _ _)
      | (with_reducible exact LeO.refl _)
      | (with_reducible exact LeO.none _)
      | (with_reducible refine LeO.ite ?_ ?_)
      | (with_reducible refine LeO.bind ?_ (fun _ => ?_))
      | exact ih0 _ _
      | exact ih1 _ _ _ _ _
      | exact ih2 _ _ _ _ _ _
      | exact spec_wordOk.mono _ _
      | exact LeO.none _
      | refine LeO.ite ?_ ?_
      | refine LeO.bind ?_ (fun _ => ?_)
set_option maxHeartbeats 8000000 in
set_option maxRecDepth 100000 in
theorem spec_pathOk.calls (k : Nat) (a0 : ByteArray) (r : Bool) (w : World) (h : spec_pathOk.f k a0 = some r) :
    Calls Tryd.prog 20 #[.string a0] w fun e w' => e = .returned (.bool r) ∧ Drawn0 w w' := by
  have H : (if (a0.size : Int) ≤ 11 then (spec_pathOk.j0 k a0 true) else (if 0 ≤ 11 then (if 11 ≤ (a0.size : Int) then (if (a0.extract 0 11).toList = ([101, 120, 97, 109, 112, 108, 101, 46, 99, 111, 109] : List UInt8) then (spec_pathOk.j0 k a0 (decide ((a0.size : Int) > 50))) else (spec_pathOk.j0 k a0 true)) else (none)) else (none))) = some r := h
  clear h
  have HC2 := Aside0.mk H
  clear H
  go_enter Tryd.func20, Tryd.ntmps20
  go_upto_region 1 with (fail)
  go_cut [19] (fun v19 wc => ∃ (kq : Nat) (x19_1 : Bool), v19 = .bool x19_1 ∧ Aside0 (spec_pathOk.j0 kq a0 x19_1 = some r) ∧ Aside0 (kq ≤ k) ∧ Drawn0 w wc)
  case first =>
    have H := HC2.out
    clear HC2
    by_cases c3 : (a0.size : Int) ≤ 11
    · rw [if_pos c3] at H
      have c3b0 : decide ((a0.size : Int) ≤ 11) = true := decide_eq_true c3
      have c3b1 : decide (a0.size ≤ 11) = true := decide_eq_true (by omega)
      clear c3
      (first | rw [c3b0] | (simp only [i64_w, i32_w]; rw [c3b0]) | skip)
      have H' := Aside0.mk H
      clear H
      go_wp2
      go_meet
      case rel => exact ⟨_, (true), (by first | rfl | (simp; done) | (simp [*]; done)), H', ⟨by first | omega | exact Nat.le_refl _⟩, by repeat (first | exact Drawn0.refl _ | apply Drawn0.step)⟩
    · rw [if_neg c3] at H
      have c3b0 : decide ((a0.size : Int) ≤ 11) = false := decide_eq_false c3
      have c3b1 : decide (a0.size ≤ 11) = false := decide_eq_false (by omega)
      clear c3
      (first | rw [c3b0] | (simp only [i64_w, i32_w]; rw [c3b0]) | skip)
      by_cases c4 : 0 ≤ 11
      · rw [if_pos c4] at H
        have c4b0 := eq_true c4
        have c4b1 : decide (0 ≤ 11) = true := decide_eq_true c4
        clear c4
        by_cases c5 : 11 ≤ (a0.size : Int)
        · rw [if_pos c5] at H
          have c5b0 := eq_true c5
          have c5b1 : decide (11 ≤ (a0.size : Int)) = true := decide_eq_true c5
          clear c5
          by_cases c6 : (a0.extract 0 11).toList = ([101, 120, 97, 109, 112, 108, 101, 46, 99, 111, 109] : List UInt8)
          · rw [if_pos c6] at H
            have c6b0 : ((a0.extract 0 11).toList == ([101, 120, 97, 109, 112, 108, 101, 46, 99, 111, 109] : List UInt8)) = true := beq_iff_eq.mpr c6
            have c6b1 : ((a0.extract 0 11).toList != ([101, 120, 97, 109, 112, 108, 101, 46, 99, 111, 109] : List UInt8)) = false := bne_eq_false_iff_eq.mpr c6
            clear c6
            have H' := Aside0.mk H
            clear H
            go_wp2
            go_meet
            case rel => exact ⟨_, (decide ((a0.size : Int) > 50)), (by first | rfl | (simp; done) | (simp [*]; done)), H', ⟨by first | omega | exact Nat.le_refl _⟩, by repeat (first | exact Drawn0.refl _ | apply Drawn0.step)⟩
          · rw [if_neg c6] at H
            have c6b0 : ((a0.extract 0 11).toList == ([101, 120, 97, 109, 112, 108, 101, 46, 99, 111, 109] : List UInt8)) = false := beq_eq_false_iff_ne.mpr c6
            have c6b1 : ((a0.extract 0 11).toList != ([101, 120, 97, 109, 112, 108, 101, 46, 99, 111, 109] : List UInt8)) = true := bne_iff_ne.mpr c6
            have H' := Aside0.mk H
            clear H
            go_wp2
            go_meet
            case rel => exact ⟨_, (true), (by first | rfl | (simp; done) | (simp [*]; done)), H', ⟨by first | omega | exact Nat.le_refl _⟩, by repeat (first | exact Drawn0.refl _ | apply Drawn0.step)⟩
        · rw [if_neg c5] at H
          exact absurd H (by simp)
      · rw [if_neg c4] at H
        exact absurd H (by simp)
  case rest =>
    clear HC2
    try clear c2
    try clear p2
    try clear c3
    try clear c3b0
    try clear c3b1
    try clear c4
    try clear c4b0
    try clear c4b1
    try clear c5
    try clear c5b0
    try clear c5b1
    try clear c6
    try clear c6b0
    try clear c6b1
    obtain ⟨kq, x19_1, rfl, HA, HJ1, ⟨mc1, rfl⟩⟩ := hcut
    cases kq with
    | zero => exact absurd HA.out (by simp [spec_pathOk.j0])
    | succ kj1 =>
      have H := HA.out
      clear HA
      simp only [spec_pathOk.j0] at H
      by_cases c7 : x19_1 = true
      · subst c7
        have H1 : (some false) = some r := by rw [if_pos rfl] at H; exact H
        clear H
        have H := H1
        clear H1
        obtain rfl := Option.some.inj H
        go_wp2
        go_ret
        exact ⟨by first | rfl | (simp; done) | (simp [*]; done), by repeat (first | exact Drawn0.refl _ | apply Drawn0.step)⟩
      · replace c7 := Bool.eq_false_iff.mpr c7
        subst c7
        have H1 : (if 11 ≤ (a0.size : Int) then (spec_pathOk.l0 kj1 a0 0 0 (a0.extract 11 a0.size) 0) else (none)) = some r := by rw [if_neg (show ¬ (false = true) by decide)] at H; exact H
        clear H
        have H := H1
        clear H1
        by_cases c8 : 11 ≤ (a0.size : Int)
        · rw [if_pos c8] at H
          have c8b0 := eq_true c8
          have c8b1 : decide (11 ≤ (a0.size : Int)) = true := decide_eq_true c8
          clear c8
          have H' := Aside0.mk H
          clear H
          go_wp2
          generalize a0.extract 11 a0.size = rest at H' ⊢
          go_loopg [3, 4, 6] kj1 (fun kq v3 v4 v6 w' => ∃ (x3_2 : Int) (x4_2 : Int) (x6_2 : Int), v3 = .int .i64 x3_2 ∧ v4 = .int .i64 x4_2 ∧ v6 = .int .i64 x6_2 ∧ Aside0 (spec_pathOk.l0 kq a0 x3_2 x4_2 rest x6_2 = some r) ∧ Aside0 (kq ≤ kj1) ∧ Drawn0 w w')
          case atStart => exact ⟨(0), (0), (0), (by first | rfl | (simp; done) | (simp [*]; done)), (by first | rfl | (simp; done) | (simp [*]; done)), (by first | rfl | (simp; done) | (simp [*]; done)), H', ⟨Nat.le_refl _⟩, by repeat (first | exact Drawn0.refl _ | apply Drawn0.step)⟩
          case round =>
            clear H'
            try clear c1
            try clear c2
            try clear p2
            try clear c3
            try clear c3b0
            try clear c3b1
            try clear c4
            try clear c4b0
            try clear c4b1
            try clear c5
            try clear c5b0
            try clear c5b1
            try clear c6
            try clear c6b0
            try clear c6b1
            try clear c7
            try clear c8
            try clear c8b0
            try clear c8b1
            try clear p2
            obtain ⟨x3_2, x4_2, x6_2, rfl, rfl, rfl, HA, HK2, ⟨m2, rfl⟩⟩ := hrel
            cases gk with
            | zero => exact absurd HA.out (by simp [spec_pathOk.l0])
            | succ k2 =>
              have H := HA.out
              clear HA
              simp only [spec_pathOk.l0] at H
              by_cases c9 : x6_2 ≤ (rest.size : Int)
              · rw [if_pos c9] at H
                have c9b0 : decide (x6_2 ≤ (rest.size : Int)) = true := decide_eq_true c9
                clear c9
                have HC10 := Aside0.mk H
                clear H
                go_upto_region 8 with (fail)
                go_cut [37] (fun v37 wc => ∃ (kq : Nat) (x37_9 : Bool), v37 = .bool x37_9 ∧ Aside0 (spec_pathOk.j2 kq a0 x3_2 x4_2 rest x6_2 x37_9 = some r) ∧ Aside0 (kq ≤ k2) ∧ Drawn0 w wc)
                case first =>
                  have H := HC10.out
                  clear HC10
                  by_cases c11 : x6_2 < (rest.size : Int)
                  · rw [if_pos c11] at H
                    have c11b0 : decide (x6_2 < (rest.size : Int)) = true := decide_eq_true c11
                    clear c11
                    (first | rw [c11b0] | (simp only [i64_w, i32_w]; rw [c11b0]) | skip)
                    by_cases c12 : 0 ≤ x6_2
                    · rw [if_pos c12] at H
                      have c12b0 : decide (0 ≤ x6_2) = true := decide_eq_true c12
                      clear c12
                      have H' := Aside0.mk H
                      clear H
                      have p13 : 0 ≤ (x6_2 : Int) := of_decide_eq_true (by first | (with_reducible assumption) | assumption)
                      have q13 : x6_2 < (rest.size : Int) := of_decide_eq_true (by first | (with_reducible assumption) | assumption)
                      have hx13 := bt_at rest x6_2
                      replace p13 := eq_true p13
                      replace q13 := eq_true q13
                      go_wp2
                      go_meet
                      case rel => exact ⟨_, (((bt rest x6_2) != 47)), (by first | rfl | (simp; done) | (simp [*]; done)), H', ⟨by have := HJ1.out; have := HK2.out; first | omega | exact Nat.le_refl _⟩, by repeat (first | exact Drawn0.refl _ | apply Drawn0.step)⟩
                    · rw [if_neg c12] at H
                      exact absurd H (by simp)
                  · rw [if_neg c11] at H
                    have c11b0 : decide (x6_2 < (rest.size : Int)) = false := decide_eq_false c11
                    clear c11
                    (first | rw [c11b0] | (simp only [i64_w, i32_w]; rw [c11b0]) | skip)
                    have H' := Aside0.mk H
                    clear H
                    go_wp2
                    go_meet
                    case rel => exact ⟨_, (false), (by first | rfl | (simp; done) | (simp [*]; done)), H', ⟨by have := HJ1.out; have := HK2.out; first | omega | exact Nat.le_refl _⟩, by repeat (first | exact Drawn0.refl _ | apply Drawn0.step)⟩
                case rest =>
                  clear HC10
                  try clear c1
                  try clear p1
                  try clear q1
                  try clear hx1
                  try clear c2
                  try clear p2
                  try clear c3
                  try clear c3b0
                  try clear c3b1
                  try clear c4
                  try clear c4b0
                  try clear c4b1
                  try clear c5
                  try clear c5b0
                  try clear c5b1
                  try clear c6
                  try clear c6b0
                  try clear c6b1
                  try clear c7
                  try clear c8
                  try clear c8b0
                  try clear c8b1
                  try clear c9
                  try clear c9b0
                  try clear c11
                  try clear c11b0
                  try clear c12
                  try clear c12b0
                  try clear p13
                  try clear q13
                  try clear hx13
                  try clear p13
                  try clear p2
                  try clear q13
                  obtain ⟨kq, x37_9, rfl, HA, HJ9, ⟨mc9, rfl⟩⟩ := hcut
                  cases kq with
                  | zero => exact absurd HA.out (by simp [spec_pathOk.j2])
                  | succ kj9 =>
                    have H := HA.out
                    clear HA
                    simp only [spec_pathOk.j2] at H
                    by_cases c14 : x37_9 = true
                    · subst c14
                      have H1 : (spec_pathOk.l0 kj9 a0 x3_2 x4_2 rest (wrap64 (x6_2 + 1))) = some r := by rw [if_pos rfl] at H; exact H
                      clear H
                      have H := H1
                      clear H1
                      have H' := Aside0.mk H
                      clear H
                      go_wp2
                      go_roundg kj9
                      case measure => have := HJ1.out; have := HK2.out; have := HJ9.out; omega
                      case rel => exact ⟨(x3_2), (x4_2), (wrap64 (x6_2 + 1)), (by first | rfl | (simp; done) | (simp [*]; done)), (by first | rfl | (simp; done) | (simp [*]; done)), (by first | rfl | (simp; done) | (simp [*]; done)), H', ⟨by have := HJ1.out; have := HK2.out; have := HJ9.out; omega⟩, by repeat (first | exact Drawn0.refl _ | apply Drawn0.step)⟩
                    · replace c14 := Bool.eq_false_iff.mpr c14
                      subst c14
                      have H1 : (if x6_2 > x4_2 then (if 0 ≤ x4_2 then (if x4_2 ≤ x6_2 then (if x6_2 ≤ (rest.size : Int) then ((spec_wordOk.f kj9 (rest.extract (x4_2 : Int).toNat (x6_2 : Int).toNat)).bind fun t117 => (if t117 = true then (spec_pathOk.l0 kj9 a0 (wrap64 (x3_2 + 1)) (wrap64 (x6_2 + 1)) rest (wrap64 (x6_2 + 1))) else (some false))) else (none)) else (none)) else (none)) else (if x6_2 > 0 then (some false) else (spec_pathOk.l0 kj9 a0 x3_2 (wrap64 (x6_2 + 1)) rest (wrap64 (x6_2 + 1))))) = some r := by rw [if_neg (show ¬ (false = true) by decide)] at H; exact H
                      clear H
                      have H := H1
                      clear H1
                      by_cases c15 : x6_2 > x4_2
                      · rw [if_pos c15] at H
                        have c15b0 : decide (x4_2 < x6_2) = true := decide_eq_true c15
                        clear c15
                        by_cases c16 : 0 ≤ x4_2
                        · rw [if_pos c16] at H
                          have c16b0 := eq_true c16
                          have c16b1 : decide (0 ≤ x4_2) = true := decide_eq_true c16
                          clear c16
                          by_cases c17 : x4_2 ≤ x6_2
                          · rw [if_pos c17] at H
                            have c17b0 := eq_true c17
                            have c17b1 : decide (x4_2 ≤ x6_2) = true := decide_eq_true c17
                            clear c17
                            by_cases c18 : x6_2 ≤ (rest.size : Int)
                            · rw [if_pos c18] at H
                              have c18b0 := eq_true c18
                              have c18b1 : decide (x6_2 ≤ (rest.size : Int)) = true := decide_eq_true c18
                              clear c18
                              replace H := Option.bind_eq_some_iff.mp H
                              obtain ⟨t117, A190, H⟩ := H
                              replace H : (if t117 = true then (spec_pathOk.l0 kj9 a0 (wrap64 (x3_2 + 1)) (wrap64 (x6_2 + 1)) rest (wrap64 (x6_2 + 1))) else (some false)) = some r := H
                              have A19 := Aside0.mk A190
                              clear A190
                              by_cases c20 : t117 = true
                              · subst c20
                                have H1 : (spec_pathOk.l0 kj9 a0 (wrap64 (x3_2 + 1)) (wrap64 (x6_2 + 1)) rest (wrap64 (x6_2 + 1))) = some r := by rw [if_pos rfl] at H; exact H
                                clear H
                                have H := H1
                                clear H1
                                have H' := Aside0.mk H
                                clear H
                                go_wp2_with (first | ((with_reducible refine gate_callee (f := 22) rfl ?_); refine goesL_ (some 45) rfl rfl Tryd.func22 (by kernel_rfl) rfl #[.string (rest.extract (x4_2 : Int).toNat (x6_2 : Int).toNat)] rfl (by (try simp only [List.map_toArray, List.map_cons, List.map_nil]); first | done | rfl | (simp only [List.length_drop, List.length_take]; rfl)) ?_; (with_reducible refine (spec_wordOk.calls kj9 (rest.extract (x4_2 : Int).toNat (x6_2 : Int).toNat) true _ A19.out).mono ?_); rintro e w' ⟨rfl, ⟨nd, rfl⟩⟩; refine ⟨_, rfl, ?_⟩))
                                go_roundg kj9
                                case measure => have := HJ1.out; have := HK2.out; have := HJ9.out; omega
                                case rel => exact ⟨(wrap64 (x3_2 + 1)), (wrap64 (x6_2 + 1)), (wrap64 (x6_2 + 1)), (by first | rfl | (simp; done) | (simp [*]; done)), (by first | rfl | (simp; done) | (simp [*]; done)), (by first | rfl | (simp; done) | (simp [*]; done)), H', ⟨by have := HJ1.out; have := HK2.out; have := HJ9.out; omega⟩, by repeat (first | exact Drawn0.refl _ | apply Drawn0.step)⟩
                              · replace c20 := Bool.eq_false_iff.mpr c20
                                subst c20
                                have H1 : (some false) = some r := by rw [if_neg (show ¬ (false = true) by decide)] at H; exact H
                                clear H
                                have H := H1
                                clear H1
                                obtain rfl := Option.some.inj H
                                go_wp2_with (first | ((with_reducible refine gate_callee (f := 22) rfl ?_); refine goesL_ (some 45) rfl rfl Tryd.func22 (by kernel_rfl) rfl #[.string (rest.extract (x4_2 : Int).toNat (x6_2 : Int).toNat)] rfl (by (try simp only [List.map_toArray, List.map_cons, List.map_nil]); first | done | rfl | (simp only [List.length_drop, List.length_take]; rfl)) ?_; (with_reducible refine (spec_wordOk.calls kj9 (rest.extract (x4_2 : Int).toNat (x6_2 : Int).toNat) false _ A19.out).mono ?_); rintro e w' ⟨rfl, ⟨nd, rfl⟩⟩; refine ⟨_, rfl, ?_⟩))
                                go_ret
                                exact ⟨by first | rfl | (simp; done) | (simp [*]; done), by repeat (first | exact Drawn0.refl _ | apply Drawn0.step)⟩
                            · rw [if_neg c18] at H
                              exact absurd H (by simp)
                          · rw [if_neg c17] at H
                            exact absurd H (by simp)
                        · rw [if_neg c16] at H
                          exact absurd H (by simp)
                      · rw [if_neg c15] at H
                        have c15b0 : decide (x4_2 < x6_2) = false := decide_eq_false c15
                        clear c15
                        by_cases c21 : x6_2 > 0
                        · rw [if_pos c21] at H
                          have c21b0 : decide (0 < x6_2) = true := decide_eq_true c21
                          clear c21
                          obtain rfl := Option.some.inj H
                          go_wp2
                          go_ret
                          exact ⟨by first | rfl | (simp; done) | (simp [*]; done), by repeat (first | exact Drawn0.refl _ | apply Drawn0.step)⟩
                        · rw [if_neg c21] at H
                          have c21b0 : decide (0 < x6_2) = false := decide_eq_false c21
                          clear c21
                          have H' := Aside0.mk H
                          clear H
                          go_wp2
                          go_roundg kj9
                          case measure => have := HJ1.out; have := HK2.out; have := HJ9.out; omega
                          case rel => exact ⟨(x3_2), (wrap64 (x6_2 + 1)), (wrap64 (x6_2 + 1)), (by first | rfl | (simp; done) | (simp [*]; done)), (by first | rfl | (simp; done) | (simp [*]; done)), (by first | rfl | (simp; done) | (simp [*]; done)), H', ⟨by have := HJ1.out; have := HK2.out; have := HJ9.out; omega⟩, by repeat (first | exact Drawn0.refl _ | apply Drawn0.step)⟩
              · rw [if_neg c9] at H
                have c9b0 : decide (x6_2 ≤ (rest.size : Int)) = false := decide_eq_false c9
                clear c9
                by_cases c22 : 0 < (rest.size : Int)
                · rw [if_pos c22] at H
                  have c22b0 : decide (0 < (rest.size : Int)) = true := decide_eq_true c22
                  have c22b1 : decide (0 < rest.size) = true := decide_eq_true (by omega)
                  clear c22
                  by_cases c24 : (bt rest 0) = 47
                  · rw [if_pos c24] at H
                    have c24b0 : ((bt rest 0) == 47) = true := beq_iff_eq.mpr c24
                    have c24b1 : ((bt rest 0) != 47) = false := bne_eq_false_iff_eq.mpr c24
                    clear c24
                    by_cases c25 : x3_2 ≥ 1
                    · rw [if_pos c25] at H
                      have c25b0 : decide (1 ≤ x3_2) = true := decide_eq_true c25
                      clear c25
                      by_cases c26 : x3_2 ≤ 4
                      · rw [if_pos c26] at H
                        have c26b0 : decide (x3_2 ≤ 4) = true := decide_eq_true c26
                        clear c26
                        replace H := Option.bind_eq_some_iff.mp H
                        obtain ⟨t116, A270, H⟩ := H
                        replace H : (some (t116 != 1)) = some r := H
                        have A27 := Aside0.mk A270
                        clear A270
                        obtain rfl := Option.some.inj H
                        have p23 : 0 ≤ (0 : Int) := (by omega)
                        have q23 : 0 < rest.size := (by have : (0 : Int) < (rest.size : Int) := of_decide_eq_true (by first | (with_reducible assumption) | assumption); omega)
                        have hx23 : ∀ h : 0 < rest.size, ((rest[0]'h).toNat : Int) = bt rest 0 := bt_at rest 0
                        clear p23
                        have qi23 : (0 < (rest.size : Int)) = True := eq_true (of_decide_eq_true (by first | (with_reducible assumption) | assumption))
                        replace q23 := eq_true q23
                        go_wp2_with (first | (go_at_call 24; (with_reducible refine (spec_Major.calls a0 t116 _ A27.out).mono ?_); rintro e w' ⟨rfl, ⟨nd, rfl⟩⟩))
                        go_ret
                        exact ⟨by first | rfl | (simp; done) | (simp [*]; done), by repeat (first | exact Drawn0.refl _ | apply Drawn0.step)⟩
                      · rw [if_neg c26] at H
                        have c26b0 : decide (x3_2 ≤ 4) = false := decide_eq_false c26
                        clear c26
                        obtain rfl := Option.some.inj H
                        have p23 : 0 ≤ (0 : Int) := (by omega)
                        have q23 : 0 < rest.size := (by have : (0 : Int) < (rest.size : Int) := of_decide_eq_true (by first | (with_reducible assumption) | assumption); omega)
                        have hx23 : ∀ h : 0 < rest.size, ((rest[0]'h).toNat : Int) = bt rest 0 := bt_at rest 0
                        clear p23
                        have qi23 : (0 < (rest.size : Int)) = True := eq_true (of_decide_eq_true (by first | (with_reducible assumption) | assumption))
                        replace q23 := eq_true q23
                        go_wp2
                        go_ret
                        exact ⟨by first | rfl | (simp; done) | (simp [*]; done), by repeat (first | exact Drawn0.refl _ | apply Drawn0.step)⟩
                    · rw [if_neg c25] at H
                      have c25b0 : decide (1 ≤ x3_2) = false := decide_eq_false c25
                      clear c25
                      obtain rfl := Option.some.inj H
                      have p23 : 0 ≤ (0 : Int) := (by omega)
                      have q23 : 0 < rest.size := (by have : (0 : Int) < (rest.size : Int) := of_decide_eq_true (by first | (with_reducible assumption) | assumption); omega)
                      have hx23 : ∀ h : 0 < rest.size, ((rest[0]'h).toNat : Int) = bt rest 0 := bt_at rest 0
                      clear p23
                      have qi23 : (0 < (rest.size : Int)) = True := eq_true (of_decide_eq_true (by first | (with_reducible assumption) | assumption))
                      replace q23 := eq_true q23
                      go_wp2
                      go_ret
                      exact ⟨by first | rfl | (simp; done) | (simp [*]; done), by repeat (first | exact Drawn0.refl _ | apply Drawn0.step)⟩
                  · rw [if_neg c24] at H
                    have c24b0 : ((bt rest 0) == 47) = false := beq_eq_false_iff_ne.mpr c24
                    have c24b1 : ((bt rest 0) != 47) = true := bne_iff_ne.mpr c24
                    obtain rfl := Option.some.inj H
                    have p23 : 0 ≤ (0 : Int) := (by omega)
                    have q23 : 0 < rest.size := (by have : (0 : Int) < (rest.size : Int) := of_decide_eq_true (by first | (with_reducible assumption) | assumption); omega)
                    have hx23 : ∀ h : 0 < rest.size, ((rest[0]'h).toNat : Int) = bt rest 0 := bt_at rest 0
                    clear p23
                    have qi23 : (0 < (rest.size : Int)) = True := eq_true (of_decide_eq_true (by first | (with_reducible assumption) | assumption))
                    replace q23 := eq_true q23
                    go_wp2
                    go_ret
                    exact ⟨by first | rfl | (simp; done) | (simp [*]; done), by repeat (first | exact Drawn0.refl _ | apply Drawn0.step)⟩
                · rw [if_neg c22] at H
                  exact absurd H (by simp)
        · rw [if_neg c8] at H
          exact absurd H (by simp)

/-! ### spec_figures: function 29 -/
def spec_figures.l0 : Nat → ByteArray → Int → Option (Bool)
  | 0, _, _ => none
  | k + 1, x0, x3 => if x3 < (x0.size : Int) then (if 0 ≤ x3 then (if (bt x0 x3) < 48 then (some false) else (if (bt x0 x3) > 57 then (some false) else (spec_figures.l0 k x0 (wrap64 (x3 + 1))))) else (none)) else (some (decide ((x0.size : Int) > 0)))
def spec_figures.f (k : Nat) (a0 : ByteArray) : Option (Bool) := spec_figures.l0 k a0 0
theorem spec_figures.mono_l : ∀ k, (∀ y0 y1, LeO (spec_figures.l0 k y0 y1) (spec_figures.l0 (k + 1) y0 y1))
  | 0 => fun _ _ r h => by simp [spec_figures.l0] at h
  | k + 1 => by
    have ih0 := spec_figures.mono_l k
    · intro y0 y1
      unfold spec_figures.l0
      repeat' first
      | (with_reducible exact ih0 _ _)
      | (with_reducible exact LeO.refl _)
      | (with_reducible exact LeO.none _)
      | (with_reducible refine LeO.ite ?_ ?_)
      | (with_reducible refine LeO.bind ?_ (fun _ => ?_))
      | exact ih0 _ _
      | exact LeO.none _
      | refine LeO.ite ?_ ?_
      | refine LeO.bind ?_ (fun _ => ?_)
theorem spec_figures.mono : ∀ a0 k, LeO (spec_figures.f k a0) (spec_figures.f (k + 1) a0) := by
  intro a0 k
  have ih0 := spec_figures.mono_l k
  unfold spec_figures.f
  repeat' first
      | (with_reducible exact ih0 _ _)
      | (with_reducible exact LeO.refl _)
      | (with_reducible exact LeO.none _)
      | (with_reducible refine LeO.ite ?_ ?_)
      | (with_reducible refine LeO.bind ?_ (fun _ => ?_))
      | exact ih0 _ _
      | exact LeO.none _
      | refine LeO.ite ?_ ?_
      | refine LeO.bind ?_ (fun _ => ?_)
set_option maxHeartbeats 8000000 in
set_option maxRecDepth 100000 in
theorem spec_figures.calls (k : Nat) (a0 : ByteArray) (r : Bool) (w : World) (h : spec_figures.f k a0 = some r) :
    Calls Tryd.prog 29 #[.string a0] w fun e w' => e = .returned (.bool r) ∧ Drawn0 w w' := by
  have H : (spec_figures.l0 k a0 0) = some r := h
  clear h
  have H' := Aside0.mk H
  clear H
  go_enter Tryd.func29, Tryd.ntmps29
  go_wp2
  go_loopg [3] k (fun kq v3 w' => ∃ (x3_1 : Int), v3 = .int .i64 x3_1 ∧ Aside0 (spec_figures.l0 kq a0 x3_1 = some r) ∧ Aside0 (kq ≤ k) ∧ Drawn0 w w')
  case atStart => exact ⟨(0), (by first | rfl | (simp; done) | (simp [*]; done)), H', ⟨Nat.le_refl _⟩, by repeat (first | exact Drawn0.refl _ | apply Drawn0.step)⟩
  case round =>
    clear H'
    obtain ⟨x3_1, rfl, HA, HK1, ⟨m1, rfl⟩⟩ := hrel
    cases gk with
    | zero => exact absurd HA.out (by simp [spec_figures.l0])
    | succ k1 =>
      have H := HA.out
      clear HA
      simp only [spec_figures.l0] at H
      by_cases c2 : x3_1 < (a0.size : Int)
      · rw [if_pos c2] at H
        have c2b0 : decide (x3_1 < (a0.size : Int)) = true := decide_eq_true c2
        clear c2
        by_cases c3 : 0 ≤ x3_1
        · rw [if_pos c3] at H
          have c3b0 : decide (0 ≤ x3_1) = true := decide_eq_true c3
          clear c3
          by_cases c5 : (bt a0 x3_1) < 48
          · rw [if_pos c5] at H
            have c5b0 : decide ((bt a0 x3_1) < 48) = true := decide_eq_true c5
            clear c5
            obtain rfl := Option.some.inj H
            have p4 : 0 ≤ (x3_1 : Int) := of_decide_eq_true (by first | (with_reducible assumption) | assumption)
            have q4 : x3_1 < (a0.size : Int) := of_decide_eq_true (by first | (with_reducible assumption) | assumption)
            have hx4 := bt_at a0 x3_1
            replace p4 := eq_true p4
            replace q4 := eq_true q4
            go_wp2
            go_ret
            exact ⟨by first | rfl | (simp; done) | (simp [*]; done), by repeat (first | exact Drawn0.refl _ | apply Drawn0.step)⟩
          · rw [if_neg c5] at H
            have c5b0 : decide ((bt a0 x3_1) < 48) = false := decide_eq_false c5
            clear c5
            by_cases c7 : (bt a0 x3_1) > 57
            · rw [if_pos c7] at H
              have c7b0 : decide (57 < (bt a0 x3_1)) = true := decide_eq_true c7
              clear c7
              obtain rfl := Option.some.inj H
              have p4 : 0 ≤ (x3_1 : Int) := of_decide_eq_true (by first | (with_reducible assumption) | assumption)
              have q4 : x3_1 < (a0.size : Int) := of_decide_eq_true (by first | (with_reducible assumption) | assumption)
              have hx4 := bt_at a0 x3_1
              replace p4 := eq_true p4
              replace q4 := eq_true q4
              have p6 : 0 ≤ (x3_1 : Int) := of_decide_eq_true (by first | (with_reducible assumption) | assumption)
              have q6 : x3_1 < (a0.size : Int) := of_decide_eq_true (by first | (with_reducible assumption) | assumption)
              have hx6 := bt_at a0 x3_1
              replace p6 := eq_true p6
              replace q6 := eq_true q6
              go_wp2
              go_ret
              exact ⟨by first | rfl | (simp; done) | (simp [*]; done), by repeat (first | exact Drawn0.refl _ | apply Drawn0.step)⟩
            · rw [if_neg c7] at H
              have c7b0 : decide (57 < (bt a0 x3_1)) = false := decide_eq_false c7
              clear c7
              have H' := Aside0.mk H
              clear H
              have p4 : 0 ≤ (x3_1 : Int) := of_decide_eq_true (by first | (with_reducible assumption) | assumption)
              have q4 : x3_1 < (a0.size : Int) := of_decide_eq_true (by first | (with_reducible assumption) | assumption)
              have hx4 := bt_at a0 x3_1
              replace p4 := eq_true p4
              replace q4 := eq_true q4
              have p6 : 0 ≤ (x3_1 : Int) := of_decide_eq_true (by first | (with_reducible assumption) | assumption)
              have q6 : x3_1 < (a0.size : Int) := of_decide_eq_true (by first | (with_reducible assumption) | assumption)
              have hx6 := bt_at a0 x3_1
              replace p6 := eq_true p6
              replace q6 := eq_true q6
              go_wp2
              go_roundg k1
              case measure => have := HK1.out; omega
              case rel => exact ⟨(wrap64 (x3_1 + 1)), (by first | rfl | (simp; done) | (simp [*]; done)), H', ⟨by have := HK1.out; omega⟩, by repeat (first | exact Drawn0.refl _ | apply Drawn0.step)⟩
        · rw [if_neg c3] at H
          exact absurd H (by simp)
      · rw [if_neg c2] at H
        have c2b0 : decide (x3_1 < (a0.size : Int)) = false := decide_eq_false c2
        clear c2
        obtain rfl := Option.some.inj H
        go_wp2
        go_ret
        exact ⟨by first | rfl | (simp; done) | (simp [*]; done), by repeat (first | exact Drawn0.refl _ | apply Drawn0.step)⟩

/-! ### spec_goOk: function 21 -/
def spec_goOk.f (k : Nat) (a0 : ByteArray) : Option (Bool) := if (a0.size : Int) < 4 then (some false) else (if 0 ≤ 2 then (if 2 ≤ (a0.size : Int) then (if (a0.extract 0 2).toList = ([49, 46] : List UInt8) then (if 2 ≤ 4 then (if 4 ≤ (a0.size : Int) then ((spec_figures.f k (a0.extract 2 4)).bind fun t118 => (if t118 = true then (if 2 < (a0.size : Int) then (if (bt a0 2) = 48 then (some false) else (if (a0.size : Int) = 4 then (some true) else (if (a0.size : Int) = 6 then (if 4 < (a0.size : Int) then (if (bt a0 4) = 46 then (if 5 ≤ (a0.size : Int) then ((spec_figures.f k (a0.extract 5 a0.size)).bind fun t119 => (some t119)) else (none)) else (some false)) else (none)) else (some false)))) else (none)) else (some false))) else (none)) else (none)) else (some false)) else (none)) else (none))
theorem spec_goOk.mono : ∀ a0 k, LeO (spec_goOk.f k a0) (spec_goOk.f (k + 1) a0) := by
  intro a0 k
  unfold spec_goOk.f
  repeat' first
      | (with_reducible exact spec_figures.mono _ _)
      | (with_reducible exact LeO.refl _)
      | (with_reducible exact LeO.none _)
      | (with_reducible refine LeO.ite ?_ ?_)
      | (with_reducible refine LeO.bind ?_ (fun _ => ?_))
      | exact spec_figures.mono _ _
      | exact LeO.none _
      | refine LeO.ite ?_ ?_
      | refine LeO.bind ?_ (fun _ => ?_)
set_option maxHeartbeats 8000000 in
set_option maxRecDepth 100000 in
theorem spec_goOk.calls (k : Nat) (a0 : ByteArray) (r : Bool) (w : World) (h : spec_goOk.f k a0 = some r) :
    Calls Tryd.prog 21 #[.string a0] w fun e w' => e = .returned (.bool r) ∧ Drawn0 w w' := by
  have H : (if (a0.size : Int) < 4 then (some false) else (if 0 ≤ 2 then (if 2 ≤ (a0.size : Int) then (if (a0.extract 0 2).toList = ([49, 46] : List UInt8) then (if 2 ≤ 4 then (if 4 ≤ (a0.size : Int) then ((spec_figures.f k (a0.extract 2 4)).bind fun t118 => (if t118 = true then (if 2 < (a0.size : Int) then (if (bt a0 2) = 48 then (some false) else (if (a0.size : Int) = 4 then (some true) else (if (a0.size : Int) = 6 then (if 4 < (a0.size : Int) then (if (bt a0 4) = 46 then (if 5 ≤ (a0.size : Int) then ((spec_figures.f k (a0.extract 5 a0.size)).bind fun t119 => (some t119)) else (none)) else (some false)) else (none)) else (some false)))) else (none)) else (some false))) else (none)) else (none)) else (some false)) else (none)) else (none))) = some r := h
  clear h
  by_cases c2 : (a0.size : Int) < 4
  · rw [if_pos c2] at H
    have c2b0 : decide ((a0.size : Int) < 4) = true := decide_eq_true c2
    have c2b1 : decide (a0.size < 4) = true := decide_eq_true (by omega)
    clear c2
    obtain rfl := Option.some.inj H
    go_enter Tryd.func21, Tryd.ntmps21
    go_wp2
    go_ret
    exact ⟨by first | rfl | (simp; done) | (simp [*]; done), by repeat (first | exact Drawn0.refl _ | apply Drawn0.step)⟩
  · rw [if_neg c2] at H
    have c2b0 : decide ((a0.size : Int) < 4) = false := decide_eq_false c2
    have c2b1 : decide (a0.size < 4) = false := decide_eq_false (by omega)
    clear c2
    by_cases c3 : 0 ≤ 2
    · rw [if_pos c3] at H
      have c3b0 := eq_true c3
      have c3b1 : decide (0 ≤ 2) = true := decide_eq_true c3
      clear c3
      by_cases c4 : 2 ≤ (a0.size : Int)
      · rw [if_pos c4] at H
        have c4b0 := eq_true c4
        have c4b1 : decide (2 ≤ (a0.size : Int)) = true := decide_eq_true c4
        clear c4
        by_cases c5 : (a0.extract 0 2).toList = ([49, 46] : List UInt8)
        · rw [if_pos c5] at H
          have c5b0 : ((a0.extract 0 2).toList == ([49, 46] : List UInt8)) = true := beq_iff_eq.mpr c5
          have c5b1 : ((a0.extract 0 2).toList != ([49, 46] : List UInt8)) = false := bne_eq_false_iff_eq.mpr c5
          clear c5
          by_cases c6 : 2 ≤ 4
          · rw [if_pos c6] at H
            have c6b0 := eq_true c6
            have c6b1 : decide (2 ≤ 4) = true := decide_eq_true c6
            clear c6
            by_cases c7 : 4 ≤ (a0.size : Int)
            · rw [if_pos c7] at H
              have c7b0 := eq_true c7
              have c7b1 : decide (4 ≤ (a0.size : Int)) = true := decide_eq_true c7
              clear c7
              replace H := Option.bind_eq_some_iff.mp H
              obtain ⟨t118, A80, H⟩ := H
              replace H : (if t118 = true then (if 2 < (a0.size : Int) then (if (bt a0 2) = 48 then (some false) else (if (a0.size : Int) = 4 then (some true) else (if (a0.size : Int) = 6 then (if 4 < (a0.size : Int) then (if (bt a0 4) = 46 then (if 5 ≤ (a0.size : Int) then ((spec_figures.f k (a0.extract 5 a0.size)).bind fun t119 => (some t119)) else (none)) else (some false)) else (none)) else (some false)))) else (none)) else (some false)) = some r := H
              have A8 := Aside0.mk A80
              clear A80
              by_cases c9 : t118 = true
              · subst c9
                have H1 : (if 2 < (a0.size : Int) then (if (bt a0 2) = 48 then (some false) else (if (a0.size : Int) = 4 then (some true) else (if (a0.size : Int) = 6 then (if 4 < (a0.size : Int) then (if (bt a0 4) = 46 then (if 5 ≤ (a0.size : Int) then ((spec_figures.f k (a0.extract 5 a0.size)).bind fun t119 => (some t119)) else (none)) else (some false)) else (none)) else (some false)))) else (none)) = some r := by rw [if_pos rfl] at H; exact H
                clear H
                have H := H1
                clear H1
                by_cases c10 : 2 < (a0.size : Int)
                · rw [if_pos c10] at H
                  have c10b0 : decide (2 < (a0.size : Int)) = true := decide_eq_true c10
                  have c10b1 : decide (2 < a0.size) = true := decide_eq_true (by omega)
                  clear c10
                  by_cases c12 : (bt a0 2) = 48
                  · rw [if_pos c12] at H
                    have c12b0 : ((bt a0 2) == 48) = true := beq_iff_eq.mpr c12
                    have c12b1 : ((bt a0 2) != 48) = false := bne_eq_false_iff_eq.mpr c12
                    clear c12
                    obtain rfl := Option.some.inj H
                    go_enter Tryd.func21, Tryd.ntmps21
                    go_wp2_with (first | (go_at_call 29; (with_reducible refine (spec_figures.calls k (a0.extract 2 4) true _ A8.out).mono ?_); rintro e w' ⟨rfl, ⟨nd, rfl⟩⟩; have p11 : 0 ≤ (2 : Int) := (by omega); have q11 : 2 < a0.size := (by have : (2 : Int) < (a0.size : Int) := of_decide_eq_true (by first | (with_reducible assumption) | assumption); omega); have hx11 : ∀ h : 2 < a0.size, ((a0[2]'h).toNat : Int) = bt a0 2 := bt_at a0 2; clear p11; have qi11 : (2 < (a0.size : Int)) = True := eq_true (of_decide_eq_true (by first | (with_reducible assumption) | assumption)); replace q11 := eq_true q11))
                    go_ret
                    exact ⟨by first | rfl | (simp; done) | (simp [*]; done), by repeat (first | exact Drawn0.refl _ | apply Drawn0.step)⟩
                  · rw [if_neg c12] at H
                    have c12b0 : ((bt a0 2) == 48) = false := beq_eq_false_iff_ne.mpr c12
                    have c12b1 : ((bt a0 2) != 48) = true := bne_iff_ne.mpr c12
                    by_cases c13 : (a0.size : Int) = 4
                    · rw [if_pos c13] at H
                      have c13b0 : ((a0.size : Int) == 4) = true := beq_iff_eq.mpr c13
                      have c13b1 : ((a0.size : Int) != 4) = false := bne_eq_false_iff_eq.mpr c13
                      clear c13
                      obtain rfl := Option.some.inj H
                      go_enter Tryd.func21, Tryd.ntmps21
                      go_wp2_with (first | (go_at_call 29; (with_reducible refine (spec_figures.calls k (a0.extract 2 4) true _ A8.out).mono ?_); rintro e w' ⟨rfl, ⟨nd, rfl⟩⟩; have p11 : 0 ≤ (2 : Int) := (by omega); have q11 : 2 < a0.size := (by have : (2 : Int) < (a0.size : Int) := of_decide_eq_true (by first | (with_reducible assumption) | assumption); omega); have hx11 : ∀ h : 2 < a0.size, ((a0[2]'h).toNat : Int) = bt a0 2 := bt_at a0 2; clear p11; have qi11 : (2 < (a0.size : Int)) = True := eq_true (of_decide_eq_true (by first | (with_reducible assumption) | assumption)); replace q11 := eq_true q11))
                      go_ret
                      exact ⟨by first | rfl | (simp; done) | (simp [*]; done), by repeat (first | exact Drawn0.refl _ | apply Drawn0.step)⟩
                    · rw [if_neg c13] at H
                      have c13b0 : ((a0.size : Int) == 4) = false := beq_eq_false_iff_ne.mpr c13
                      have c13b1 : ((a0.size : Int) != 4) = true := bne_iff_ne.mpr c13
                      by_cases c14 : (a0.size : Int) = 6
                      · rw [if_pos c14] at H
                        have c14b0 : ((a0.size : Int) == 6) = true := beq_iff_eq.mpr c14
                        have c14b1 : ((a0.size : Int) != 6) = false := bne_eq_false_iff_eq.mpr c14
                        clear c14
                        by_cases c15 : 4 < (a0.size : Int)
                        · rw [if_pos c15] at H
                          have c15b0 : decide (4 < (a0.size : Int)) = true := decide_eq_true c15
                          have c15b1 : decide (4 < a0.size) = true := decide_eq_true (by omega)
                          clear c15
                          by_cases c17 : (bt a0 4) = 46
                          · rw [if_pos c17] at H
                            have c17b0 : ((bt a0 4) == 46) = true := beq_iff_eq.mpr c17
                            have c17b1 : ((bt a0 4) != 46) = false := bne_eq_false_iff_eq.mpr c17
                            clear c17
                            by_cases c18 : 5 ≤ (a0.size : Int)
                            · rw [if_pos c18] at H
                              have c18b0 := eq_true c18
                              have c18b1 : decide (5 ≤ (a0.size : Int)) = true := decide_eq_true c18
                              clear c18
                              replace H := Option.bind_eq_some_iff.mp H
                              obtain ⟨t119, A190, H⟩ := H
                              replace H : (some t119) = some r := H
                              have A19 := Aside0.mk A190
                              clear A190
                              obtain rfl := Option.some.inj H
                              go_enter Tryd.func21, Tryd.ntmps21
                              go_wp2_with (first | (go_at_call 29; (with_reducible refine (spec_figures.calls k (a0.extract 2 4) true _ A8.out).mono ?_); rintro e w' ⟨rfl, ⟨nd, rfl⟩⟩; have p11 : 0 ≤ (2 : Int) := (by omega); have q11 : 2 < a0.size := (by have : (2 : Int) < (a0.size : Int) := of_decide_eq_true (by first | (with_reducible assumption) | assumption); omega); have hx11 : ∀ h : 2 < a0.size, ((a0[2]'h).toNat : Int) = bt a0 2 := bt_at a0 2; clear p11; have qi11 : (2 < (a0.size : Int)) = True := eq_true (of_decide_eq_true (by first | (with_reducible assumption) | assumption)); replace q11 := eq_true q11; have p16 : 0 ≤ (4 : Int) := (by omega); have q16 : 4 < a0.size := (by have : (4 : Int) < (a0.size : Int) := of_decide_eq_true (by first | (with_reducible assumption) | assumption); omega); have hx16 : ∀ h : 4 < a0.size, ((a0[4]'h).toNat : Int) = bt a0 4 := bt_at a0 4; clear p16; have qi16 : (4 < (a0.size : Int)) = True := eq_true (of_decide_eq_true (by first | (with_reducible assumption) | assumption)); replace q16 := eq_true q16) | (go_at_call 29; (with_reducible refine (spec_figures.calls k (a0.extract 5 a0.size) t119 _ A19.out).mono ?_); rintro e w' ⟨rfl, ⟨nd, rfl⟩⟩))
                              go_ret
                              exact ⟨by first | rfl | (simp; done) | (simp [*]; done), by repeat (first | exact Drawn0.refl _ | apply Drawn0.step)⟩
                            · rw [if_neg c18] at H
                              exact absurd H (by simp)
                          · rw [if_neg c17] at H
                            have c17b0 : ((bt a0 4) == 46) = false := beq_eq_false_iff_ne.mpr c17
                            have c17b1 : ((bt a0 4) != 46) = true := bne_iff_ne.mpr c17
                            obtain rfl := Option.some.inj H
                            go_enter Tryd.func21, Tryd.ntmps21
                            go_wp2_with (first | (go_at_call 29; (with_reducible refine (spec_figures.calls k (a0.extract 2 4) true _ A8.out).mono ?_); rintro e w' ⟨rfl, ⟨nd, rfl⟩⟩; have p11 : 0 ≤ (2 : Int) := (by omega); have q11 : 2 < a0.size := (by have : (2 : Int) < (a0.size : Int) := of_decide_eq_true (by first | (with_reducible assumption) | assumption); omega); have hx11 : ∀ h : 2 < a0.size, ((a0[2]'h).toNat : Int) = bt a0 2 := bt_at a0 2; clear p11; have qi11 : (2 < (a0.size : Int)) = True := eq_true (of_decide_eq_true (by first | (with_reducible assumption) | assumption)); replace q11 := eq_true q11; have p16 : 0 ≤ (4 : Int) := (by omega); have q16 : 4 < a0.size := (by have : (4 : Int) < (a0.size : Int) := of_decide_eq_true (by first | (with_reducible assumption) | assumption); omega); have hx16 : ∀ h : 4 < a0.size, ((a0[4]'h).toNat : Int) = bt a0 4 := bt_at a0 4; clear p16; have qi16 : (4 < (a0.size : Int)) = True := eq_true (of_decide_eq_true (by first | (with_reducible assumption) | assumption)); replace q16 := eq_true q16))
                            go_ret
                            exact ⟨by first | rfl | (simp; done) | (simp [*]; done), by repeat (first | exact Drawn0.refl _ | apply Drawn0.step)⟩
                        · rw [if_neg c15] at H
                          exact absurd H (by simp)
                      · rw [if_neg c14] at H
                        have c14b0 : ((a0.size : Int) == 6) = false := beq_eq_false_iff_ne.mpr c14
                        have c14b1 : ((a0.size : Int) != 6) = true := bne_iff_ne.mpr c14
                        obtain rfl := Option.some.inj H
                        go_enter Tryd.func21, Tryd.ntmps21
                        go_wp2_with (first | (go_at_call 29; (with_reducible refine (spec_figures.calls k (a0.extract 2 4) true _ A8.out).mono ?_); rintro e w' ⟨rfl, ⟨nd, rfl⟩⟩; have p11 : 0 ≤ (2 : Int) := (by omega); have q11 : 2 < a0.size := (by have : (2 : Int) < (a0.size : Int) := of_decide_eq_true (by first | (with_reducible assumption) | assumption); omega); have hx11 : ∀ h : 2 < a0.size, ((a0[2]'h).toNat : Int) = bt a0 2 := bt_at a0 2; clear p11; have qi11 : (2 < (a0.size : Int)) = True := eq_true (of_decide_eq_true (by first | (with_reducible assumption) | assumption)); replace q11 := eq_true q11))
                        go_ret
                        exact ⟨by first | rfl | (simp; done) | (simp [*]; done), by repeat (first | exact Drawn0.refl _ | apply Drawn0.step)⟩
                · rw [if_neg c10] at H
                  exact absurd H (by simp)
              · replace c9 := Bool.eq_false_iff.mpr c9
                subst c9
                have H1 : (some false) = some r := by rw [if_neg (show ¬ (false = true) by decide)] at H; exact H
                clear H
                have H := H1
                clear H1
                obtain rfl := Option.some.inj H
                go_enter Tryd.func21, Tryd.ntmps21
                go_wp2_with (first | (go_at_call 29; (with_reducible refine (spec_figures.calls k (a0.extract 2 4) false _ A8.out).mono ?_); rintro e w' ⟨rfl, ⟨nd, rfl⟩⟩))
                go_ret
                exact ⟨by first | rfl | (simp; done) | (simp [*]; done), by repeat (first | exact Drawn0.refl _ | apply Drawn0.step)⟩
            · rw [if_neg c7] at H
              exact absurd H (by simp)
          · rw [if_neg c6] at H
            exact absurd H (by simp)
        · rw [if_neg c5] at H
          have c5b0 : ((a0.extract 0 2).toList == ([49, 46] : List UInt8)) = false := beq_eq_false_iff_ne.mpr c5
          have c5b1 : ((a0.extract 0 2).toList != ([49, 46] : List UInt8)) = true := bne_iff_ne.mpr c5
          obtain rfl := Option.some.inj H
          go_enter Tryd.func21, Tryd.ntmps21
          go_wp2
          go_ret
          exact ⟨by first | rfl | (simp; done) | (simp [*]; done), by repeat (first | exact Drawn0.refl _ | apply Drawn0.step)⟩
      · rw [if_neg c4] at H
        exact absurd H (by simp)
    · rw [if_neg c3] at H
      exact absurd H (by simp)

end Go.Proofs.YtikgnlgmidbclaaDoor.PFnModulePath
