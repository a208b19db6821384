/- The walk of spec.versionOk: it answers what its Lean function answers. Condition: that function answers. (Began as a text of print.sh.) -/
import Derived.Test.YtikgnlgmidbclaaDoorO0
import Derived.Test.YtikgnlgmidbclaaDoorO1
import Derived.Test.YtikgnlgmidbclaaDoorO2
namespace Go.Proofs.YtikgnlgmidbclaaDoor.PFnModulePath
open Go.RowKit Go.Proofs.YtikgnlgmidbclaaDoorW.PrintWords Go.Proofs.YtikgnlgmidbclaaDoorW.PrintLast Go.Proofs.YtikgnlgmidbclaaDoorW.PrintMore
attribute [local go_sem] max2_int min2_int max_two min_two max_three min_three max_four min_four   -- for this text's walks alone
set_option linter.unusedVariables false
set_option linter.unusedSimpArgs false

/-! ### spec_versionOk: function 11 -/
mutual
def spec_versionOk.j0 : Nat → ByteArray → ByteArray → Bool → Option (Bool)
  | 0, _, _, _ => none
  | k + 1, x0, x1, x21 => if x21 = true then (some false) else (spec_versionOk.l0 k x0 x1 1 (-1) 0)
def spec_versionOk.l0 : Nat → ByteArray → ByteArray → Int → Int → Int → Option (Bool)
  | 0, _, _, _, _, _ => none
  | k + 1, x0, x1, x5, x6, x22 => if x22 < 3 then (spec_versionOk.l1 k x0 x1 x5 x6 x22 x5 x22) else (if x0.toList = ([] : List UInt8) then (if x5 = (x1.size : Int) then (some true) else (if 0 ≤ x5 then (if x5 < (x1.size : Int) then (if (bt x1 x5) = 45 then (if 0 ≤ (wrap64 (x5 + 1)) then (if (wrap64 (x5 + 1)) ≤ (x1.size : Int) then ((spec_wordOk.f k (x1.extract ((wrap64 (x5 + 1)) : Int).toNat x1.size)).bind fun t107 => (if t107 = true then (if (wrap64 (x5 + 1)) < (x1.size : Int) then (some ((bt x1 (wrap64 (x5 + 1))) != 118)) else (none)) else (some false))) else (none)) else (none)) else (some false)) else (none)) else (none))) else ((spec_Major.f x0).bind fun t108 => (if t108 > 0 then ((spec_Major.f x0).bind fun t109 => (if x6 = t109 then ((spec_Major.f x0).bind fun t110 => (if t110 = 0 then (if x6 > 1 then (some false) else (if x5 = (x1.size : Int) then (some true) else (if 0 ≤ x5 then (if x5 < (x1.size : Int) then (if (bt x1 x5) = 45 then (if 0 ≤ (wrap64 (x5 + 1)) then (if (wrap64 (x5 + 1)) ≤ (x1.size : Int) then ((spec_wordOk.f k (x1.extract ((wrap64 (x5 + 1)) : Int).toNat x1.size)).bind fun t111 => (if t111 = true then (if (wrap64 (x5 + 1)) < (x1.size : Int) then (some ((bt x1 (wrap64 (x5 + 1))) != 118)) else (none)) else (some false))) else (none)) else (none)) else (some false)) else (none)) else (none)))) else (if x5 = (x1.size : Int) then (some true) else (if 0 ≤ x5 then (if x5 < (x1.size : Int) then (if (bt x1 x5) = 45 then (if 0 ≤ (wrap64 (x5 + 1)) then (if (wrap64 (x5 + 1)) ≤ (x1.size : Int) then ((spec_wordOk.f k (x1.extract ((wrap64 (x5 + 1)) : Int).toNat x1.size)).bind fun t112 => (if t112 = true then (if (wrap64 (x5 + 1)) < (x1.size : Int) then (some ((bt x1 (wrap64 (x5 + 1))) != 118)) else (none)) else (some false))) else (none)) else (none)) else (some false)) else (none)) else (none))))) else (some false))) else ((spec_Major.f x0).bind fun t113 => (if t113 = 0 then (if x6 > 1 then (some false) else (if x5 = (x1.size : Int) then (some true) else (if 0 ≤ x5 then (if x5 < (x1.size : Int) then (if (bt x1 x5) = 45 then (if 0 ≤ (wrap64 (x5 + 1)) then (if (wrap64 (x5 + 1)) ≤ (x1.size : Int) then ((spec_wordOk.f k (x1.extract ((wrap64 (x5 + 1)) : Int).toNat x1.size)).bind fun t114 => (if t114 = true then (if (wrap64 (x5 + 1)) < (x1.size : Int) then (some ((bt x1 (wrap64 (x5 + 1))) != 118)) else (none)) else (some false))) else (none)) else (none)) else (some false)) else (none)) else (none)))) else (if x5 = (x1.size : Int) then (some true) else (if 0 ≤ x5 then (if x5 < (x1.size : Int) then (if (bt x1 x5) = 45 then (if 0 ≤ (wrap64 (x5 + 1)) then (if (wrap64 (x5 + 1)) ≤ (x1.size : Int) then ((spec_wordOk.f k (x1.extract ((wrap64 (x5 + 1)) : Int).toNat x1.size)).bind fun t115 => (if t115 = true then (if (wrap64 (x5 + 1)) < (x1.size : Int) then (some ((bt x1 (wrap64 (x5 + 1))) != 118)) else (none)) else (some false))) else (none)) else (none)) else (some false)) else (none)) else (none))))))))
def spec_versionOk.j3 : Nat → ByteArray → ByteArray → Int → Int → Int → Int → Int → Option (Bool)
  | 0, _, _, _, _, _, _, _ => none
  | k + 1, x0, x1, x5, x6, x7, x8, x22 => if x5 = x8 then (spec_versionOk.j4 k x0 x1 x5 x6 x7 x8 x22 true) else (if (wrap64 (x5 - x8)) > 3 then (spec_versionOk.j4 k x0 x1 x5 x6 x7 x8 x22 true) else (if (wrap64 (x5 - x8)) > 1 then (if 0 ≤ x8 then (if x8 < (x1.size : Int) then (spec_versionOk.j4 k x0 x1 x5 x6 x7 x8 x22 ((bt x1 x8) == 48)) else (none)) else (none)) else (spec_versionOk.j4 k x0 x1 x5 x6 x7 x8 x22 false)))
def spec_versionOk.j4 : Nat → ByteArray → ByteArray → Int → Int → Int → Int → Int → Bool → Option (Bool)
  | 0, _, _, _, _, _, _, _, _ => none
  | k + 1, x0, x1, x5, x6, x7, x8, x22, x64 => if x64 = true then (some false) else (if x7 = 0 then (if 0 ≤ x8 then (if x8 < (x1.size : Int) then (if (wrap64 (x5 - x8)) > 1 then (some false) else (spec_versionOk.j5 k x0 x1 x5 (((bt x1 x8) - 48) % 256) x7 x22)) else (none)) else (none)) else (spec_versionOk.j5 k x0 x1 x5 x6 x7 x22))
def spec_versionOk.j5 : Nat → ByteArray → ByteArray → Int → Int → Int → Int → Option (Bool)
  | 0, _, _, _, _, _, _ => none
  | k + 1, x0, x1, x5, x6, x7, x22 => if x7 < 2 then (if x5 ≥ (x1.size : Int) then (some false) else (if 0 ≤ x5 then (if x5 < (x1.size : Int) then (if (bt x1 x5) = 46 then (spec_versionOk.l0 k x0 x1 (wrap64 (x5 + 1)) x6 (wrap64 (x22 + 1))) else (some false)) else (none)) else (none))) else (spec_versionOk.l0 k x0 x1 x5 x6 (wrap64 (x22 + 1)))
def spec_versionOk.l1 : Nat → ByteArray → ByteArray → Int → Int → Int → Int → Int → Option (Bool)
  | 0, _, _, _, _, _, _, _ => none
  | k + 1, x0, x1, x5, x6, x7, x8, x22 => if x5 < (x1.size : Int) then (if 0 ≤ x5 then (if (bt x1 x5) ≥ 48 then (if (bt x1 x5) ≤ 57 then (spec_versionOk.l1 k x0 x1 (wrap64 (x5 + 1)) x6 x7 x8 x22) else (spec_versionOk.j3 k x0 x1 x5 x6 x7 x8 x22)) else (spec_versionOk.j3 k x0 x1 x5 x6 x7 x8 x22)) else (none)) else (spec_versionOk.j3 k x0 x1 x5 x6 x7 x8 x22)
end
def spec_versionOk.f (k : Nat) (a0 : ByteArray) (a1 : ByteArray) : Option (Bool) := if (a1.size : Int) < 6 then (spec_versionOk.j0 k a0 a1 true) else (if (a1.size : Int) > 20 then (spec_versionOk.j0 k a0 a1 true) else (if 0 < (a1.size : Int) then (spec_versionOk.j0 k a0 a1 ((bt a1 0) != 118)) else (none)))
theorem spec_versionOk.mono_l : ∀ k, (∀ y0 y1 y2, LeO (spec_versionOk.j0 k y0 y1 y2) (spec_versionOk.j0 (k + 1) y0 y1 y2)) ∧ (∀ y0 y1 y2 y3 y4, LeO (spec_versionOk.l0 k y0 y1 y2 y3 y4) (spec_versionOk.l0 (k + 1) y0 y1 y2 y3 y4)) ∧ (∀ y0 y1 y2 y3 y4 y5 y6, LeO (spec_versionOk.j3 k y0 y1 y2 y3 y4 y5 y6) (spec_versionOk.j3 (k + 1) y0 y1 y2 y3 y4 y5 y6)) ∧ (∀ y0 y1 y2 y3 y4 y5 y6 y7, LeO (spec_versionOk.j4 k y0 y1 y2 y3 y4 y5 y6 y7) (spec_versionOk.j4 (k + 1) y0 y1 y2 y3 y4 y5 y6 y7)) ∧ (∀ y0 y1 y2 y3 y4 y5, LeO (spec_versionOk.j5 k y0 y1 y2 y3 y4 y5) (spec_versionOk.j5 (k + 1) y0 y1 y2 y3 y4 y5)) ∧ (∀ y0 y1 y2 y3 y4 y5 y6, LeO (spec_versionOk.l1 k y0 y1 y2 y3 y4 y5 y6) (spec_versionOk.l1 (k + 1) y0 y1 y2 y3 y4 y5 y6))
  | 0 => ⟨fun _ _ _ r h => by simp [spec_versionOk.j0] at h, fun _ _ _ _ _ r h => by simp [spec_versionOk.l0] at h, fun _ _ _ _ _ _ _ r h => by simp [spec_versionOk.j3] at h, fun _ _ _ _ _ _ _ _ r h => by simp [spec_versionOk.j4] at h, fun _ _ _ _ _ _ r h => by simp [spec_versionOk.j5] at h, fun _ _ _ _ _ _ _ r h => by simp [spec_versionOk.l1] at h⟩
  | k + 1 => by
    obtain ⟨ih0, ih1, ih2, ih3, ih4, ih5⟩ := spec_versionOk.mono_l k
    refine ⟨?_, ?_, ?_, ?_, ?_, ?_⟩
    · intro y0 y1 y2
      unfold spec_versionOk.j0
      repeat' first
      | (with_reducible exact ih0 _ _ _)
      | (with_reducible exact ih1 _ _ _ _ _)
      | (with_reducible exact ih2 _ _ _ _ _ _ _)
      | (with_reducible exact ih3 _ _ _ _ _ _ _ _)
      | (with_reducible exact ih4 _ _ _ _ _ _)
      | (with_reducible exact ih5 _ _ _ _ _ _ _)
      | (with_reducible exact spec_wordOk.mono _ _)
      | (with_reducible exact LeO.refl _)
      | (with_reducible exact LeO.none _)
      | (with_reducible refine LeO.ite ?_ ?_)
      | (with_reducible refine LeO.bind ?_ (fun _ => ?_))
      | exact ih0 _ _ _
      | exact ih1 _ _ _ _ _
      | exact ih2 _ _ _ _ _ _ _
      | exact ih3 _ _ _ _ _ _ _ _
      | exact ih4 _ _ _ _ _ _
      | exact ih5 _ _ _ _ _ _ _
      | exact spec_wordOk.mono _ _
      | exact LeO.none _
      | refine LeO.ite ?_ ?_
      | refine LeO.bind ?_ (fun _ => ?_)
    · intro y0 y1 y2 y3 y4
      unfold spec_versionOk.l0
      repeat' first
      | (with_reducible exact ih0 _ _ _)
      | (with_reducible exact ih1 _ _ _ _ _)
      | (with_reducible exact ih2 _ _ _ _ _ _ _)
      | (with_reducible exact ih3 _ _ _ _ _ _ _ _)
      | (with_reducible exact ih4 _ _ _ _ _ _)
      | (with_reducible exact ih5 _ _ _ _ _ _ _)
      | (with_reducible exact spec_wordOk.mono _ _)
      | (with_reducible exact LeO.refl _)
      | (with_reducible exact LeO.none _)
      | (with_reducible refine LeO.ite ?_ ?_)
      | (with_reducible refine LeO.bind ?_ (fun _ => ?_))
      | exact ih0 _ _ _
      | exact ih1 _ _ _ _ _
      | exact ih2 _ _ _ _ _ _ _
      | exact ih3 _ _ _ _ _ _ _ _
      | exact ih4 _ _ _ _ _ _
      | exact ih5 _ _ _ _ _ _ _
      | exact spec_wordOk.mono _ _
      | exact LeO.none _
      | refine LeO.ite ?_ ?_
      | refine LeO.bind ?_ (fun _ => ?_)
    · intro y0 y1 y2 y3 y4 y5 y6
      unfold spec_versionOk.j3
      repeat' first
      | (with_reducible exact ih0 _ _ _)
      | (with_reducible exact ih1 _ _ _ _ _)
      | (with_reducible exact ih2 _ _ _ _ _ _ _)
      | (with_reducible exact ih3 _ _ _ _ _ _ _ _)
      | (with_reducible exact ih4 _ _ _ _ _ _)
      | (with_reducible exact ih5 _ _ _ _ _ _ _)
      | (with_reducible exact spec_wordOk.mono _ _)
      | (with_reducible exact LeO.refl _)
      | (with_reducible exact LeO.none _)
      | (with_reducible refine LeO.ite ?_ ?_)
      | (with_reducible refine LeO.bind ?_ (fun _ => ?_))
      | exact ih0 _ _ _
      | exact ih1 _ _ _ _ _
      | exact ih2 _ _ _ _ _ _ _
      | exact ih3 _ _ _ _ _ _ _ _
      | exact ih4 _ _ _ _ _ _
      | exact ih5 _ _ _ _ _ _ _
      | exact spec_wordOk.mono _ _
      | exact LeO.none _
      | refine LeO.ite ?_ ?_
      | refine LeO.bind ?_ (fun _ => ?_)
    · intro y0 y1 y2 y3 y4 y5 y6 y7
      unfold spec_versionOk.j4
      repeat' first
      | (with_reducible exact ih0 _ _ _)
      | (with_reducible exact ih1 _ _ _ _ _)
      | (with_reducible exact ih2 _ _ _ _ _ _ _)
      | (with_reducible exact ih3 _ _ _ _ _ _ _ _)
      | (with_reducible exact ih4 _ _ _ _ _ _)
      | (with_reducible exact ih5 _ _ _ _ _ _ _)
      | (with_reducible exact spec_wordOk.mono _ _)
      | (with_reducible exact LeO.refl _)
      | (with_reducible exact LeO.none _)
      | (with_reducible refine LeO.ite ?_ ?_)
      | (with_reducible refine LeO.bind ?_ (fun _ => ?_))
      | exact ih0 _ _ _
      | exact ih1 _ _ _ _ _
      | exact ih2 _ _ _ _ _ _ _
      | exact ih3 _ _ _ _ _ _ _ _
      | exact ih4 _ _ _ _ _ _
      | exact ih5 _ _ _ _ _ _ _
      | exact spec_wordOk.mono _ _
      | exact LeO.none _
      | refine LeO.ite ?_ ?_
      | refine LeO.bind ?_ (fun _ => ?_)
    · intro y0 y1 y2 y3 y4 y5
      unfold spec_versionOk.j5
      repeat' first
      | (with_reducible exact ih0 _ _ _)
      | (with_reducible exact ih1 _ _ _ _ _)
      | (with_reducible exact ih2 _ _ _ _ _ _ _)
      | (with_reducible exact ih3 _ _ _ _ _ _ _ _)
      | (with_reducible exact ih4 _ _ _ _ _ _)
      | (with_reducible exact ih5 _ _ _ _ _ _ _)
      | (with_reducible exact spec_wordOk.mono _ _)
      | (with_reducible exact LeO.refl _)
      | (with_reducible exact LeO.none _)
      | (with_reducible refine LeO.ite ?_ ?_)
      | (with_reducible refine LeO.bind ?_ (fun _ => ?_))
      | exact ih0 _ _ _
      | exact ih1 _ _ _ _ _
      | exact ih2 _ _ _ _ _ _ _
      | exact ih3 _ _ _ _ _ _ _ _
      | exact ih4 _ _ _ _ _ _
      | exact ih5 _ _ _ _ _ _ _
      | exact spec_wordOk.mono _ _
      | exact LeO.none _
      | refine LeO.ite ?_ ?_
      | refine LeO.bind ?_ (fun _ => ?_)
    · intro y0 y1 y2 y3 y4 y5 y6
      unfold spec_versionOk.l1
      repeat' first
      | (with_reducible exact ih0 _ _ _)
      | (with_reducible exact ih1 _ _ _ _ _)
      | (with_reducible exact ih2 _ _ _ _ _ _ _)
      | (with_reducible exact ih3 _ _ _ _ _ _ _ _)
      | (with_reducible exact ih4 _ _ _ _ _ _)
      | (with_reducible exact ih5 _ _ _ _ _ _ _)
      | (with_reducible exact spec_wordOk.mono _ _)
      | (with_reducible exact LeO.refl _)
      | (with_reducible exact LeO.none _)
      | (with_reducible refine LeO.ite ?_ ?_)
      | (with_reducible refine LeO.bind ?_ (fun _ => ?_))
      | exact ih0 _ _ _
      | exact ih1 _ _ _ _ _
      | exact ih2 _ _ _ _ _ _ _
      | exact ih3 _ _ _ _ _ _ _ _
      | exact ih4 _ _ _ _ _ _
      | exact ih5 _ _ _ _ _ _ _
      | exact spec_wordOk.mono _ _
      | exact LeO.none _
      | refine LeO.ite ?_ ?_
      | refine LeO.bind ?_ (fun _ => ?_)
theorem spec_versionOk.mono : ∀ a0 a1 k, LeO (spec_versionOk.f k a0 a1) (spec_versionOk.f (k + 1) a0 a1) := by
  intro a0 a1 k
  obtain ⟨ih0, ih1, ih2, ih3, ih4, ih5⟩ := spec_versionOk.mono_l k
  unfold spec_versionOk.f
  repeat' first
      | (with_reducible exact ih0 _ _ _)
      | (with_reducible exact ih1 _ _ _ _ _)
      | (with_reducible exact ih2 _ _ _ _ _ _ _)
      | (with_reducible exact ih3 _ _ _ _ _ _ _ _)
      | (with_reducible exact ih4 _ _ _ _ _ _)
      | (with_reducible exact ih5 _ _ _ _ _ _ _)
      | (with_reducible exact spec_wordOk.mono _ _)
      | (with_reducible exact LeO.refl _)
      | (with_reducible exact LeO.none _)
      | (with_reducible refine LeO.ite ?_ ?_)
      | (with_reducible refine LeO.bind ?_ (fun _ => ?_))
      | exact ih0 _ _ _
      | exact ih1 _ _ _ _ _
      | exact ih2 _ _ _ _ _ _ _
      | exact ih3 _ _ _ _ _ _ _ _
      | exact ih4 _ _ _ _ _ _
      | exact ih5 _ _ _ _ _ _ _
      | exact spec_wordOk.mono _ _
      | exact LeO.none _
      | refine LeO.ite ?_ ?_
      | refine LeO.bind ?_ (fun _ => ?_)
set_option maxHeartbeats 8000000 in
set_option maxRecDepth 100000 in
theorem spec_versionOk.calls (k : Nat) (a0 : ByteArray) (a1 : ByteArray) (r : Bool) (w : World) (h : spec_versionOk.f k a0 a1 = some r) :
    Calls Tryd.prog 11 #[.string a0, .string a1] w fun e w' => e = .returned (.bool r) ∧ Drawn0 w w' := by
  have H : (if (a1.size : Int) < 6 then (spec_versionOk.j0 k a0 a1 true) else (if (a1.size : Int) > 20 then (spec_versionOk.j0 k a0 a1 true) else (if 0 < (a1.size : Int) then (spec_versionOk.j0 k a0 a1 ((bt a1 0) != 118)) else (none)))) = some r := h
  clear h
  have HC3 := Aside0.mk H
  clear H
  go_enter Tryd.func11, Tryd.ntmps11
  go_upto_region 1 with (fail)
  go_cut [21] (fun v21 wc => ∃ (kq : Nat) (x21_2 : Bool), v21 = .bool x21_2 ∧ Aside0 (spec_versionOk.j0 kq a0 a1 x21_2 = some r) ∧ Aside0 (kq ≤ k) ∧ Drawn0 w wc)
  case first =>
    have H := HC3.out
    clear HC3
    by_cases c4 : (a1.size : Int) < 6
    · rw [if_pos c4] at H
      have c4b0 : decide ((a1.size : Int) < 6) = true := decide_eq_true c4
      have c4b1 : decide (a1.size < 6) = true := decide_eq_true (by omega)
      clear c4
      (first | rw [c4b0] | (simp only [i64_w, i32_w]; rw [c4b0]) | skip)
      have H' := Aside0.mk H
      clear H
      go_wp2
      go_meet
      case rel => exact ⟨_, (true), (by first | rfl | (simp; done) | (simp [*]; done)), H', ⟨by first | omega | exact Nat.le_refl _⟩, by repeat (first | exact Drawn0.refl _ | apply Drawn0.step)⟩
    · rw [if_neg c4] at H
      have c4b0 : decide ((a1.size : Int) < 6) = false := decide_eq_false c4
      have c4b1 : decide (a1.size < 6) = false := decide_eq_false (by omega)
      clear c4
      (first | rw [c4b0] | (simp only [i64_w, i32_w]; rw [c4b0]) | skip)
      by_cases c5 : (a1.size : Int) > 20
      · rw [if_pos c5] at H
        have c5b0 : decide (20 < (a1.size : Int)) = true := decide_eq_true c5
        have c5b1 : decide (20 < a1.size) = true := decide_eq_true (by omega)
        clear c5
        have H' := Aside0.mk H
        clear H
        go_wp2
        go_meet
        case rel => exact ⟨_, (true), (by first | rfl | (simp; done) | (simp [*]; done)), H', ⟨by first | omega | exact Nat.le_refl _⟩, by repeat (first | exact Drawn0.refl _ | apply Drawn0.step)⟩
      · rw [if_neg c5] at H
        have c5b0 : decide (20 < (a1.size : Int)) = false := decide_eq_false c5
        have c5b1 : decide (20 < a1.size) = false := decide_eq_false (by omega)
        clear c5
        by_cases c6 : 0 < (a1.size : Int)
        · rw [if_pos c6] at H
          have c6b0 : decide (0 < (a1.size : Int)) = true := decide_eq_true c6
          have c6b1 : decide (0 < a1.size) = true := decide_eq_true (by omega)
          clear c6
          have H' := Aside0.mk H
          clear H
          have p7 : 0 ≤ (0 : Int) := (by omega)
          have q7 : 0 < a1.size := (by have : (0 : Int) < (a1.size : Int) := of_decide_eq_true (by first | (with_reducible assumption) | assumption); omega)
          have hx7 : ∀ h : 0 < a1.size, ((a1[0]'h).toNat : Int) = bt a1 0 := bt_at a1 0
          clear p7
          have qi7 : (0 < (a1.size : Int)) = True := eq_true (of_decide_eq_true (by first | (with_reducible assumption) | assumption))
          replace q7 := eq_true q7
          go_wp2
          go_meet
          case rel => exact ⟨_, (((bt a1 0) != 118)), (by first | rfl | (simp; done) | (simp [*]; done)), H', ⟨by first | omega | exact Nat.le_refl _⟩, by repeat (first | exact Drawn0.refl _ | apply Drawn0.step)⟩
        · rw [if_neg c6] at H
          exact absurd H (by simp)
  case rest =>
    clear HC3
    try clear c1
    try clear p2
    try clear c4
    try clear c4b0
    try clear c4b1
    try clear c5
    try clear c5b0
    try clear c5b1
    try clear c6
    try clear c6b0
    try clear c6b1
    try clear p7
    try clear q7
    try clear hx7
    try clear qi7
    try clear p7
    try clear q7
    obtain ⟨kq, x21_2, rfl, HA, HJ2, ⟨mc2, rfl⟩⟩ := hcut
    cases kq with
    | zero => exact absurd HA.out (by simp [spec_versionOk.j0])
    | succ kj2 =>
      have H := HA.out
      clear HA
      simp only [spec_versionOk.j0] at H
      by_cases c8 : x21_2 = true
      · subst c8
        have H1 : (some false) = some r := by rw [if_pos rfl] at H; exact H
        clear H
        have H := H1
        clear H1
        obtain rfl := Option.some.inj H
        go_wp2
        go_ret
        exact ⟨by first | rfl | (simp; done) | (simp [*]; done), by repeat (first | exact Drawn0.refl _ | apply Drawn0.step)⟩
      · replace c8 := Bool.eq_false_iff.mpr c8
        subst c8
        have H1 : (spec_versionOk.l0 kj2 a0 a1 1 (-1) 0) = some r := by rw [if_neg (show ¬ (false = true) by decide)] at H; exact H
        clear H
        have H := H1
        clear H1
        have H' := Aside0.mk H
        clear H
        go_wp2
        go_loopg [5, 6, 22] kj2 (fun kq v5 v6 v22 w' => ∃ (x5_2 : Int) (x6_2 : Int) (x22_2 : Int), v5 = .int .i64 x5_2 ∧ v6 = .int .i64 x6_2 ∧ v22 = .int .i64 x22_2 ∧ Aside0 (spec_versionOk.l0 kq a0 a1 x5_2 x6_2 x22_2 = some r) ∧ Aside0 (kq ≤ kj2) ∧ Drawn0 w w')
        case atStart => exact ⟨(1), ((-1)), (0), (by first | rfl | (simp; done) | (simp [*]; done)), (by first | rfl | (simp; done) | (simp [*]; done)), (by first | rfl | (simp; done) | (simp [*]; done)), H', ⟨Nat.le_refl _⟩, by repeat (first | exact Drawn0.refl _ | apply Drawn0.step)⟩
        case round =>
          clear H'
          try clear c1
          try clear c2
          try clear p2
          try clear c4
          try clear c4b0
          try clear c4b1
          try clear c5
          try clear c5b0
          try clear c5b1
          try clear c6
          try clear c6b0
          try clear c6b1
          try clear p7
          try clear q7
          try clear hx7
          try clear qi7
          try clear c8
          try clear p2
          try clear p7
          try clear q7
          obtain ⟨x5_2, x6_2, x22_2, rfl, rfl, rfl, HA, HK2, ⟨m2, rfl⟩⟩ := hrel
          cases gk with
          | zero => exact absurd HA.out (by simp [spec_versionOk.l0])
          | succ k2 =>
            have H := HA.out
            clear HA
            simp only [spec_versionOk.l0] at H
            by_cases c9 : x22_2 < 3
            · rw [if_pos c9] at H
              have c9b0 : decide (x22_2 < 3) = true := decide_eq_true c9
              clear c9
              have HC10 := Aside0.mk H
              clear H
              go_upto_block 2 with (fail)
              go_cut [5] (fun v5 wc => ∃ (kq : Nat) (x5_9 : Int), v5 = .int .i64 x5_9 ∧ Aside0 (spec_versionOk.j3 kq a0 a1 x5_9 x6_2 x22_2 x5_2 x22_2 = some r) ∧ Aside0 (kq ≤ k2) ∧ Drawn0 w wc)
              case first =>
                have H := HC10.out
                clear HC10
                have H' := Aside0.mk H
                clear H
                go_wp2
                go_loopg [5] k2 (fun kq v5 w' => ∃ (x5_3 : Int), v5 = .int .i64 x5_3 ∧ Aside0 (spec_versionOk.l1 kq a0 a1 x5_3 x6_2 x22_2 x5_2 x22_2 = some r) ∧ Aside0 (kq ≤ k2) ∧ Drawn0 w w')
                case atStart => exact ⟨(x5_2), (by first | rfl | (simp; done) | (simp [*]; done)), H', ⟨Nat.le_refl _⟩, by repeat (first | exact Drawn0.refl _ | apply Drawn0.step)⟩
                case round =>
                  clear H'
                  try clear c1
                  try clear c2
                  try clear p2
                  try clear c4
                  try clear c4b0
                  try clear c4b1
                  try clear c5
                  try clear c5b0
                  try clear c5b1
                  try clear c6
                  try clear c6b0
                  try clear c6b1
                  try clear p7
                  try clear q7
                  try clear hx7
                  try clear qi7
                  try clear c8
                  try clear c9
                  try clear c9b0
                  try clear p2
                  try clear p7
                  try clear q7
                  obtain ⟨x5_3, rfl, HA, HK3, ⟨m3, rfl⟩⟩ := hrel
                  cases gk with
                  | zero => exact absurd HA.out (by simp [spec_versionOk.l1])
                  | succ k3 =>
                    have H := HA.out
                    clear HA
                    simp only [spec_versionOk.l1] at H
                    by_cases c11 : x5_3 < (a1.size : Int)
                    · rw [if_pos c11] at H
                      have c11b0 : decide (x5_3 < (a1.size : Int)) = true := decide_eq_true c11
                      clear c11
                      (first | rw [c11b0] | (simp only [i64_w, i32_w]; rw [c11b0]) | skip)
                      by_cases c12 : 0 ≤ x5_3
                      · rw [if_pos c12] at H
                        have c12b0 : decide (0 ≤ x5_3) = true := decide_eq_true c12
                        clear c12
                        by_cases c14 : (bt a1 x5_3) ≥ 48
                        · rw [if_pos c14] at H
                          have c14b0 : decide (48 ≤ (bt a1 x5_3)) = true := decide_eq_true c14
                          clear c14
                          by_cases c16 : (bt a1 x5_3) ≤ 57
                          · rw [if_pos c16] at H
                            have c16b0 : decide ((bt a1 x5_3) ≤ 57) = true := decide_eq_true c16
                            clear c16
                            have H' := Aside0.mk H
                            clear H
                            have p13 : 0 ≤ (x5_3 : Int) := of_decide_eq_true (by first | (with_reducible assumption) | assumption)
                            have q13 : x5_3 < (a1.size : Int) := of_decide_eq_true (by first | (with_reducible assumption) | assumption)
                            have hx13 := bt_at a1 x5_3
                            replace p13 := eq_true p13
                            replace q13 := eq_true q13
                            have p15 : 0 ≤ (x5_3 : Int) := of_decide_eq_true (by first | (with_reducible assumption) | assumption)
                            have q15 : x5_3 < (a1.size : Int) := of_decide_eq_true (by first | (with_reducible assumption) | assumption)
                            have hx15 := bt_at a1 x5_3
                            replace p15 := eq_true p15
                            replace q15 := eq_true q15
                            go_wp2
                            go_roundg k3
                            case measure => have := HJ2.out; have := HK2.out; have := HK3.out; omega
                            case rel => exact ⟨(wrap64 (x5_3 + 1)), (by first | rfl | (simp; done) | (simp [*]; done)), H', ⟨by have := HJ2.out; have := HK2.out; have := HK3.out; omega⟩, by repeat (first | exact Drawn0.refl _ | apply Drawn0.step)⟩
                          · rw [if_neg c16] at H
                            have c16b0 : decide ((bt a1 x5_3) ≤ 57) = false := decide_eq_false c16
                            clear c16
                            have H' := Aside0.mk H
                            clear H
                            have p13 : 0 ≤ (x5_3 : Int) := of_decide_eq_true (by first | (with_reducible assumption) | assumption)
                            have q13 : x5_3 < (a1.size : Int) := of_decide_eq_true (by first | (with_reducible assumption) | assumption)
                            have hx13 := bt_at a1 x5_3
                            replace p13 := eq_true p13
                            replace q13 := eq_true q13
                            have p15 : 0 ≤ (x5_3 : Int) := of_decide_eq_true (by first | (with_reducible assumption) | assumption)
                            have q15 : x5_3 < (a1.size : Int) := of_decide_eq_true (by first | (with_reducible assumption) | assumption)
                            have hx15 := bt_at a1 x5_3
                            replace p15 := eq_true p15
                            replace q15 := eq_true q15
                            go_wp2
                            go_meet
                            case rel => exact ⟨_, (x5_3), (by first | rfl | (simp; done) | (simp [*]; done)), H', ⟨by have := HJ2.out; have := HK2.out; have := HK3.out; first | omega | exact Nat.le_refl _⟩, by repeat (first | exact Drawn0.refl _ | apply Drawn0.step)⟩
                        · rw [if_neg c14] at H
                          have c14b0 : decide (48 ≤ (bt a1 x5_3)) = false := decide_eq_false c14
                          clear c14
                          have H' := Aside0.mk H
                          clear H
                          have p13 : 0 ≤ (x5_3 : Int) := of_decide_eq_true (by first | (with_reducible assumption) | assumption)
                          have q13 : x5_3 < (a1.size : Int) := of_decide_eq_true (by first | (with_reducible assumption) | assumption)
                          have hx13 := bt_at a1 x5_3
                          replace p13 := eq_true p13
                          replace q13 := eq_true q13
                          go_wp2
                          go_meet
                          case rel => exact ⟨_, (x5_3), (by first | rfl | (simp; done) | (simp [*]; done)), H', ⟨by have := HJ2.out; have := HK2.out; have := HK3.out; first | omega | exact Nat.le_refl _⟩, by repeat (first | exact Drawn0.refl _ | apply Drawn0.step)⟩
                      · rw [if_neg c12] at H
                        exact absurd H (by simp)
                    · rw [if_neg c11] at H
                      have c11b0 : decide (x5_3 < (a1.size : Int)) = false := decide_eq_false c11
                      clear c11
                      (first | rw [c11b0] | (simp only [i64_w, i32_w]; rw [c11b0]) | skip)
                      have H' := Aside0.mk H
                      clear H
                      go_wp2
                      go_meet
                      case rel => exact ⟨_, (x5_3), (by first | rfl | (simp; done) | (simp [*]; done)), H', ⟨by have := HJ2.out; have := HK2.out; have := HK3.out; first | omega | exact Nat.le_refl _⟩, by repeat (first | exact Drawn0.refl _ | apply Drawn0.step)⟩
              case rest =>
                clear HC10
                try clear c1
                try clear p1
                try clear q1
                try clear hx1
                try clear c2
                try clear p2
                try clear c4
                try clear c4b0
                try clear c4b1
                try clear c5
                try clear c5b0
                try clear c5b1
                try clear c6
                try clear c6b0
                try clear c6b1
                try clear p6
                try clear p7
                try clear q7
                try clear hx7
                try clear qi7
                try clear c8
                try clear c9
                try clear c9b0
                try clear c11
                try clear c11b0
                try clear c12
                try clear c12b0
                try clear p13
                try clear q13
                try clear hx13
                try clear c14
                try clear c14b0
                try clear p15
                try clear q15
                try clear hx15
                try clear c16
                try clear c16b0
                try clear p13
                try clear p15
                try clear p2
                try clear p7
                try clear q13
                try clear q15
                try clear q7
                obtain ⟨kq, x5_9, rfl, HA, HJ9, ⟨mc9, rfl⟩⟩ := hcut
                cases kq with
                | zero => exact absurd HA.out (by simp [spec_versionOk.j3])
                | succ kj9 =>
                  have H := HA.out
                  clear HA
                  simp only [spec_versionOk.j3] at H
                  have HC17 := Aside0.mk H
                  clear H
                  go_upto_region 11 with (fail)
                  go_cut [64] (fun v64 wc => ∃ (kq : Nat) (x64_16 : Bool), v64 = .bool x64_16 ∧ Aside0 (spec_versionOk.j4 kq a0 a1 x5_9 x6_2 x22_2 x5_2 x22_2 x64_16 = some r) ∧ Aside0 (kq ≤ kj9) ∧ Drawn0 w wc)
                  case first =>
                    have H := HC17.out
                    clear HC17
                    by_cases c18 : x5_9 = x5_2
                    · rw [if_pos c18] at H
                      have c18b0 : (x5_9 == x5_2) = true := beq_iff_eq.mpr c18
                      have c18b1 : (x5_9 != x5_2) = false := bne_eq_false_iff_eq.mpr c18
                      clear c18
                      (first | rw [c18b0] | (simp only [i64_w, i32_w]; rw [c18b0]) | skip)
                      have H' := Aside0.mk H
                      clear H
                      go_wp2
                      go_meet
                      case rel => exact ⟨_, (true), (by first | rfl | (simp; done) | (simp [*]; done)), H', ⟨by have := HJ2.out; have := HK2.out; have := HJ9.out; first | omega | exact Nat.le_refl _⟩, by repeat (first | exact Drawn0.refl _ | apply Drawn0.step)⟩
                    · rw [if_neg c18] at H
                      have c18b0 : (x5_9 == x5_2) = false := beq_eq_false_iff_ne.mpr c18
                      have c18b1 : (x5_9 != x5_2) = true := bne_iff_ne.mpr c18
                      (first | rw [c18b0] | (simp only [i64_w, i32_w]; rw [c18b0]) | skip)
                      by_cases c19 : (wrap64 (x5_9 - x5_2)) > 3
                      · rw [if_pos c19] at H
                        have c19b0 : decide (3 < (wrap64 (x5_9 - x5_2))) = true := decide_eq_true c19
                        clear c19
                        have H' := Aside0.mk H
                        clear H
                        go_wp2
                        go_meet
                        case rel => exact ⟨_, (true), (by first | rfl | (simp; done) | (simp [*]; done)), H', ⟨by have := HJ2.out; have := HK2.out; have := HJ9.out; first | omega | exact Nat.le_refl _⟩, by repeat (first | exact Drawn0.refl _ | apply Drawn0.step)⟩
                      · rw [if_neg c19] at H
                        have c19b0 : decide (3 < (wrap64 (x5_9 - x5_2))) = false := decide_eq_false c19
                        clear c19
                        by_cases c20 : (wrap64 (x5_9 - x5_2)) > 1
                        · rw [if_pos c20] at H
                          have c20b0 : decide (1 < (wrap64 (x5_9 - x5_2))) = true := decide_eq_true c20
                          clear c20
                          by_cases c21 : 0 ≤ x5_2
                          · rw [if_pos c21] at H
                            have c21b0 : decide (0 ≤ x5_2) = true := decide_eq_true c21
                            clear c21
                            by_cases c22 : x5_2 < (a1.size : Int)
                            · rw [if_pos c22] at H
                              have c22b0 : decide (x5_2 < (a1.size : Int)) = true := decide_eq_true c22
                              clear c22
                              have H' := Aside0.mk H
                              clear H
                              have p23 : 0 ≤ (x5_2 : Int) := of_decide_eq_true (by first | (with_reducible assumption) | assumption)
                              have q23 : x5_2 < (a1.size : Int) := of_decide_eq_true (by first | (with_reducible assumption) | assumption)
                              have hx23 := bt_at a1 x5_2
                              replace p23 := eq_true p23
                              replace q23 := eq_true q23
                              go_wp2
                              go_meet
                              case rel => exact ⟨_, (((bt a1 x5_2) == 48)), (by first | rfl | (simp; done) | (simp [*]; done)), H', ⟨by have := HJ2.out; have := HK2.out; have := HJ9.out; first | omega | exact Nat.le_refl _⟩, by repeat (first | exact Drawn0.refl _ | apply Drawn0.step)⟩
                            · rw [if_neg c22] at H
                              exact absurd H (by simp)
                          · rw [if_neg c21] at H
                            exact absurd H (by simp)
                        · rw [if_neg c20] at H
                          have c20b0 : decide (1 < (wrap64 (x5_9 - x5_2))) = false := decide_eq_false c20
                          clear c20
                          have H' := Aside0.mk H
                          clear H
                          go_wp2
                          go_meet
                          case rel => exact ⟨_, (false), (by first | rfl | (simp; done) | (simp [*]; done)), H', ⟨by have := HJ2.out; have := HK2.out; have := HJ9.out; first | omega | exact Nat.le_refl _⟩, by repeat (first | exact Drawn0.refl _ | apply Drawn0.step)⟩
                  case rest =>
                    clear HC17
                    try clear c1
                    try clear p1
                    try clear q1
                    try clear hx1
                    try clear c2
                    try clear p2
                    try clear q2
                    try clear hx2
                    try clear c4
                    try clear c4b0
                    try clear c4b1
                    try clear c5
                    try clear c5b0
                    try clear c5b1
                    try clear c6
                    try clear c6b0
                    try clear c6b1
                    try clear p6
                    try clear p7
                    try clear q7
                    try clear hx7
                    try clear qi7
                    try clear c8
                    try clear c9
                    try clear c9b0
                    try clear c11
                    try clear c11b0
                    try clear c12
                    try clear c12b0
                    try clear p13
                    try clear q13
                    try clear hx13
                    try clear c14
                    try clear c14b0
                    try clear p15
                    try clear q15
                    try clear hx15
                    try clear c16
                    try clear c16b0
                    try clear c18
                    try clear c18b0
                    try clear c18b1
                    try clear c19
                    try clear c19b0
                    try clear c20
                    try clear c20b0
                    try clear c21
                    try clear c21b0
                    try clear c22
                    try clear c22b0
                    try clear p23
                    try clear q23
                    try clear hx23
                    try clear p1
                    try clear p13
                    try clear p15
                    try clear p2
                    try clear p23
                    try clear p6
                    try clear p7
                    try clear q1
                    try clear q13
                    try clear q15
                    try clear q23
                    try clear q7
                    obtain ⟨kq, x64_16, rfl, HA, HJ16, ⟨mc16, rfl⟩⟩ := hcut
                    cases kq with
                    | zero => exact absurd HA.out (by simp [spec_versionOk.j4])
                    | succ kj16 =>
                      have H := HA.out
                      clear HA
                      simp only [spec_versionOk.j4] at H
                      by_cases c24 : x64_16 = true
                      · subst c24
                        have H1 : (some false) = some r := by rw [if_pos rfl] at H; exact H
                        clear H
                        have H := H1
                        clear H1
                        obtain rfl := Option.some.inj H
                        go_wp2
                        go_ret
                        exact ⟨by first | rfl | (simp; done) | (simp [*]; done), by repeat (first | exact Drawn0.refl _ | apply Drawn0.step)⟩
                      · replace c24 := Bool.eq_false_iff.mpr c24
                        subst c24
                        have H1 : (if x22_2 = 0 then (if 0 ≤ x5_2 then (if x5_2 < (a1.size : Int) then (if (wrap64 (x5_9 - x5_2)) > 1 then (some false) else (spec_versionOk.j5 kj16 a0 a1 x5_9 (((bt a1 x5_2) - 48) % 256) x22_2 x22_2)) else (none)) else (none)) else (spec_versionOk.j5 kj16 a0 a1 x5_9 x6_2 x22_2 x22_2)) = some r := by rw [if_neg (show ¬ (false = true) by decide)] at H; exact H
                        clear H
                        have H := H1
                        clear H1
                        have HC25 := Aside0.mk H
                        clear H
                        go_upto_if 66 with (fail)
                        go_cut [6] (fun v6 wc => ∃ (kq : Nat) (x6_24 : Int), v6 = .int .i64 x6_24 ∧ Aside0 (spec_versionOk.j5 kq a0 a1 x5_9 x6_24 x22_2 x22_2 = some r) ∧ Aside0 (kq ≤ kj16) ∧ Drawn0 w wc)
                        case first =>
                          have H := HC25.out
                          clear HC25
                          by_cases c26 : x22_2 = 0
                          · rw [if_pos c26] at H
                            have c26b0 : (x22_2 == 0) = true := beq_iff_eq.mpr c26
                            have c26b1 : (x22_2 != 0) = false := bne_eq_false_iff_eq.mpr c26
                            clear c26
                            (first | rw [c26b0] | (simp only [i64_w, i32_w]; rw [c26b0]) | skip)
                            by_cases c27 : 0 ≤ x5_2
                            · rw [if_pos c27] at H
                              have c27b0 : decide (0 ≤ x5_2) = true := decide_eq_true c27
                              clear c27
                              by_cases c28 : x5_2 < (a1.size : Int)
                              · rw [if_pos c28] at H
                                have c28b0 : decide (x5_2 < (a1.size : Int)) = true := decide_eq_true c28
                                clear c28
                                by_cases c30 : (wrap64 (x5_9 - x5_2)) > 1
                                · rw [if_pos c30] at H
                                  have c30b0 : decide (1 < (wrap64 (x5_9 - x5_2))) = true := decide_eq_true c30
                                  clear c30
                                  obtain rfl := Option.some.inj H
                                  have p29 : 0 ≤ (x5_2 : Int) := of_decide_eq_true (by first | (with_reducible assumption) | assumption)
                                  have q29 : x5_2 < (a1.size : Int) := of_decide_eq_true (by first | (with_reducible assumption) | assumption)
                                  have hx29 := bt_at a1 x5_2
                                  replace p29 := eq_true p29
                                  replace q29 := eq_true q29
                                  go_wp2
                                  go_ret
                                  exact ⟨by first | rfl | (simp; done) | (simp [*]; done), by repeat (first | exact Drawn0.refl _ | apply Drawn0.step)⟩
                                · rw [if_neg c30] at H
                                  have c30b0 : decide (1 < (wrap64 (x5_9 - x5_2))) = false := decide_eq_false c30
                                  clear c30
                                  have H' := Aside0.mk H
                                  clear H
                                  have p29 : 0 ≤ (x5_2 : Int) := of_decide_eq_true (by first | (with_reducible assumption) | assumption)
                                  have q29 : x5_2 < (a1.size : Int) := of_decide_eq_true (by first | (with_reducible assumption) | assumption)
                                  have hx29 := bt_at a1 x5_2
                                  replace p29 := eq_true p29
                                  replace q29 := eq_true q29
                                  go_wp2
                                  go_meet
                                  case rel => exact ⟨_, (((bt a1 x5_2) - 48) % 256), (by first | rfl | (simp; done) | (simp [*]; done)), H', ⟨by have := HJ2.out; have := HK2.out; have := HJ9.out; have := HJ16.out; first | omega | exact Nat.le_refl _⟩, by repeat (first | exact Drawn0.refl _ | apply Drawn0.step)⟩
                              · rw [if_neg c28] at H
                                exact absurd H (by simp)
                            · rw [if_neg c27] at H
                              exact absurd H (by simp)
                          · rw [if_neg c26] at H
                            have c26b0 : (x22_2 == 0) = false := beq_eq_false_iff_ne.mpr c26
                            have c26b1 : (x22_2 != 0) = true := bne_iff_ne.mpr c26
                            (first | rw [c26b0] | (simp only [i64_w, i32_w]; rw [c26b0]) | skip)
                            have H' := Aside0.mk H
                            clear H
                            go_wp2
                            go_meet
                            case rel => exact ⟨_, (x6_2), (by first | rfl | (simp; done) | (simp [*]; done)), H', ⟨by have := HJ2.out; have := HK2.out; have := HJ9.out; have := HJ16.out; first | omega | exact Nat.le_refl _⟩, by repeat (first | exact Drawn0.refl _ | apply Drawn0.step)⟩
                        case rest =>
                          clear HC25
                          try clear c1
                          try clear p1
                          try clear q1
                          try clear hx1
                          try clear c2
                          try clear p2
                          try clear q2
                          try clear hx2
                          try clear c3
                          try clear c4
                          try clear c4b0
                          try clear c4b1
                          try clear c5
                          try clear c5b0
                          try clear c5b1
                          try clear c6
                          try clear c6b0
                          try clear c6b1
                          try clear p6
                          try clear p7
                          try clear q7
                          try clear hx7
                          try clear qi7
                          try clear c8
                          try clear c9
                          try clear c9b0
                          try clear c11
                          try clear c11b0
                          try clear c12
                          try clear c12b0
                          try clear p13
                          try clear q13
                          try clear hx13
                          try clear c14
                          try clear c14b0
                          try clear p15
                          try clear q15
                          try clear hx15
                          try clear c16
                          try clear c16b0
                          try clear c18
                          try clear c18b0
                          try clear c18b1
                          try clear c19
                          try clear c19b0
                          try clear c20
                          try clear c20b0
                          try clear c21
                          try clear c21b0
                          try clear c22
                          try clear c22b0
                          try clear p23
                          try clear q23
                          try clear hx23
                          try clear c24
                          try clear c26
                          try clear c26b0
                          try clear c26b1
                          try clear c27
                          try clear c27b0
                          try clear c28
                          try clear c28b0
                          try clear p29
                          try clear q29
                          try clear hx29
                          try clear c30
                          try clear c30b0
                          try clear p1
                          try clear p13
                          try clear p15
                          try clear p2
                          try clear p23
                          try clear p29
                          try clear p6
                          try clear p7
                          try clear q1
                          try clear q13
                          try clear q15
                          try clear q2
                          try clear q23
                          try clear q29
                          try clear q7
                          obtain ⟨kq, x6_24, rfl, HA, HJ24, ⟨mc24, rfl⟩⟩ := hcut
                          cases kq with
                          | zero => exact absurd HA.out (by simp [spec_versionOk.j5])
                          | succ kj24 =>
                            have H := HA.out
                            clear HA
                            simp only [spec_versionOk.j5] at H
                            by_cases c31 : x22_2 < 2
                            · rw [if_pos c31] at H
                              have c31b0 : decide (x22_2 < 2) = true := decide_eq_true c31
                              clear c31
                              by_cases c32 : x5_9 ≥ (a1.size : Int)
                              · rw [if_pos c32] at H
                                have c32b0 : decide ((a1.size : Int) ≤ x5_9) = true := decide_eq_true c32
                                clear c32
                                obtain rfl := Option.some.inj H
                                go_wp2
                                go_ret
                                exact ⟨by first | rfl | (simp; done) | (simp [*]; done), by repeat (first | exact Drawn0.refl _ | apply Drawn0.step)⟩
                              · rw [if_neg c32] at H
                                have c32b0 : decide ((a1.size : Int) ≤ x5_9) = false := decide_eq_false c32
                                clear c32
                                by_cases c33 : 0 ≤ x5_9
                                · rw [if_pos c33] at H
                                  have c33b0 : decide (0 ≤ x5_9) = true := decide_eq_true c33
                                  clear c33
                                  by_cases c34 : x5_9 < (a1.size : Int)
                                  · rw [if_pos c34] at H
                                    have c34b0 : decide (x5_9 < (a1.size : Int)) = true := decide_eq_true c34
                                    clear c34
                                    by_cases c36 : (bt a1 x5_9) = 46
                                    · rw [if_pos c36] at H
                                      have c36b0 : ((bt a1 x5_9) == 46) = true := beq_iff_eq.mpr c36
                                      have c36b1 : ((bt a1 x5_9) != 46) = false := bne_eq_false_iff_eq.mpr c36
                                      clear c36
                                      have H' := Aside0.mk H
                                      clear H
                                      have p35 : 0 ≤ (x5_9 : Int) := of_decide_eq_true (by first | (with_reducible assumption) | assumption)
                                      have q35 : x5_9 < (a1.size : Int) := of_decide_eq_true (by first | (with_reducible assumption) | assumption)
                                      have hx35 := bt_at a1 x5_9
                                      replace p35 := eq_true p35
                                      replace q35 := eq_true q35
                                      go_wp2
                                      go_roundg kj24
                                      case measure => have := HJ2.out; have := HK2.out; have := HJ9.out; have := HJ16.out; have := HJ24.out; omega
                                      case rel => exact ⟨(wrap64 (x5_9 + 1)), (x6_24), (wrap64 (x22_2 + 1)), (by first | rfl | (simp; done) | (simp [*]; done)), (by first | rfl | (simp; done) | (simp [*]; done)), (by first | rfl | (simp; done) | (simp [*]; done)), H', ⟨by have := HJ2.out; have := HK2.out; have := HJ9.out; have := HJ16.out; have := HJ24.out; omega⟩, by repeat (first | exact Drawn0.refl _ | apply Drawn0.step)⟩
                                    · rw [if_neg c36] at H
                                      have c36b0 : ((bt a1 x5_9) == 46) = false := beq_eq_false_iff_ne.mpr c36
                                      have c36b1 : ((bt a1 x5_9) != 46) = true := bne_iff_ne.mpr c36
                                      obtain rfl := Option.some.inj H
                                      have p35 : 0 ≤ (x5_9 : Int) := of_decide_eq_true (by first | (with_reducible assumption) | assumption)
                                      have q35 : x5_9 < (a1.size : Int) := of_decide_eq_true (by first | (with_reducible assumption) | assumption)
                                      have hx35 := bt_at a1 x5_9
                                      replace p35 := eq_true p35
                                      replace q35 := eq_true q35
                                      go_wp2
                                      go_ret
                                      exact ⟨by first | rfl | (simp; done) | (simp [*]; done), by repeat (first | exact Drawn0.refl _ | apply Drawn0.step)⟩
                                  · rw [if_neg c34] at H
                                    exact absurd H (by simp)
                                · rw [if_neg c33] at H
                                  exact absurd H (by simp)
                            · rw [if_neg c31] at H
                              have c31b0 : decide (x22_2 < 2) = false := decide_eq_false c31
                              clear c31
                              have H' := Aside0.mk H
                              clear H
                              go_wp2
                              go_roundg kj24
                              case measure => have := HJ2.out; have := HK2.out; have := HJ9.out; have := HJ16.out; have := HJ24.out; omega
                              case rel => exact ⟨(x5_9), (x6_24), (wrap64 (x22_2 + 1)), (by first | rfl | (simp; done) | (simp [*]; done)), (by first | rfl | (simp; done) | (simp [*]; done)), (by first | rfl | (simp; done) | (simp [*]; done)), H', ⟨by have := HJ2.out; have := HK2.out; have := HJ9.out; have := HJ16.out; have := HJ24.out; omega⟩, by repeat (first | exact Drawn0.refl _ | apply Drawn0.step)⟩
            · rw [if_neg c9] at H
              have c9b0 : decide (x22_2 < 3) = false := decide_eq_false c9
              clear c9
              by_cases c37 : a0.toList = ([] : List UInt8)
              · rw [if_pos c37] at H
                have c37b0 : (a0.toList == ([] : List UInt8)) = true := beq_iff_eq.mpr c37
                have c37b1 : (a0.toList != ([] : List UInt8)) = false := bne_eq_false_iff_eq.mpr c37
                clear c37
                by_cases c38 : x5_2 = (a1.size : Int)
                · rw [if_pos c38] at H
                  have c38b0 : (x5_2 == (a1.size : Int)) = true := beq_iff_eq.mpr c38
                  have c38b1 : (x5_2 != (a1.size : Int)) = false := bne_eq_false_iff_eq.mpr c38
                  clear c38
                  obtain rfl := Option.some.inj H
                  go_wp2
                  go_ret
                  exact ⟨by first | rfl | (simp; done) | (simp [*]; done), by repeat (first | exact Drawn0.refl _ | apply Drawn0.step)⟩
                · rw [if_neg c38] at H
                  have c38b0 : (x5_2 == (a1.size : Int)) = false := beq_eq_false_iff_ne.mpr c38
                  have c38b1 : (x5_2 != (a1.size : Int)) = true := bne_iff_ne.mpr c38
                  by_cases c39 : 0 ≤ x5_2
                  · rw [if_pos c39] at H
                    have c39b0 : decide (0 ≤ x5_2) = true := decide_eq_true c39
                    clear c39
                    by_cases c40 : x5_2 < (a1.size : Int)
                    · rw [if_pos c40] at H
                      have c40b0 : decide (x5_2 < (a1.size : Int)) = true := decide_eq_true c40
                      clear c40
                      by_cases c42 : (bt a1 x5_2) = 45
                      · rw [if_pos c42] at H
                        have c42b0 : ((bt a1 x5_2) == 45) = true := beq_iff_eq.mpr c42
                        have c42b1 : ((bt a1 x5_2) != 45) = false := bne_eq_false_iff_eq.mpr c42
                        clear c42
                        obtain ⟨ji43, hji43⟩ : ∃ j_ : Int, (wrap64 (x5_2 + 1)) = j_ := ⟨_, rfl⟩
                        replace H : (if 0 ≤ (ji43) then (if (ji43) ≤ (a1.size : Int) then ((spec_wordOk.f k2 (a1.extract ((ji43) : Int).toNat a1.size)).bind fun t107 => (if t107 = true then (if (ji43) < (a1.size : Int) then (some ((bt a1 (ji43)) != 118)) else (none)) else (some false))) else (none)) else (none)) = some r := by first | (rw [hji43] at H; exact H) | (simp only [hji43] at H ⊢; exact H)
                        have hji43w : (IntKind.i64.wrap (x5_2 + 1)) = ji43 := (i64_w _).trans hji43
                        by_cases c44 : 0 ≤ (ji43)
                        · rw [if_pos c44] at H
                          have c44b0 := eq_true c44
                          have c44b1 : decide (0 ≤ (ji43)) = true := decide_eq_true c44
                          clear c44
                          by_cases c45 : (ji43) ≤ (a1.size : Int)
                          · rw [if_pos c45] at H
                            have c45b0 := eq_true c45
                            have c45b1 : decide ((ji43) ≤ (a1.size : Int)) = true := decide_eq_true c45
                            clear c45
                            replace H := Option.bind_eq_some_iff.mp H
                            obtain ⟨t107, A460, H⟩ := H
                            replace H : (if t107 = true then (if (ji43) < (a1.size : Int) then (some ((bt a1 (ji43)) != 118)) else (none)) else (some false)) = some r := H
                            have A46 := Aside0.mk A460
                            clear A460
                            by_cases c47 : t107 = true
                            · subst c47
                              have H1 : (if (ji43) < (a1.size : Int) then (some ((bt a1 (ji43)) != 118)) else (none)) = some r := by rw [if_pos rfl] at H; exact H
                              clear H
                              have H := H1
                              clear H1
                              by_cases c48 : (ji43) < (a1.size : Int)
                              · rw [if_pos c48] at H
                                have c48b0 : decide ((ji43) < (a1.size : Int)) = true := decide_eq_true c48
                                clear c48
                                obtain rfl := Option.some.inj H
                                have p41 : 0 ≤ (x5_2 : Int) := of_decide_eq_true (by first | (with_reducible assumption) | assumption)
                                have q41 : x5_2 < (a1.size : Int) := of_decide_eq_true (by first | (with_reducible assumption) | assumption)
                                have hx41 := bt_at a1 x5_2
                                replace p41 := eq_true p41
                                replace q41 := eq_true q41
                                go_wp2_with (first | (go_at_call 22; (with_reducible refine (spec_wordOk.calls k2 (a1.extract ((ji43) : Int).toNat a1.size) true _ A46.out).mono ?_); rintro e w' ⟨rfl, ⟨nd, rfl⟩⟩; have p49 : 0 ≤ ((ji43) : Int) := of_decide_eq_true (by first | (with_reducible assumption) | assumption); have q49 : (ji43) < (a1.size : Int) := of_decide_eq_true (by first | (with_reducible assumption) | assumption); have hx49 := bt_at a1 (ji43); replace p49 := eq_true p49; replace q49 := eq_true q49))
                                go_ret
                                exact ⟨by first | rfl | (simp; done) | (simp only [← hji43] <;> (first | rfl | simp)) | (simp [*]; done), by repeat (first | exact Drawn0.refl _ | apply Drawn0.step)⟩
                              · rw [if_neg c48] at H
                                exact absurd H (by simp)
                            · replace c47 := Bool.eq_false_iff.mpr c47
                              subst c47
                              have H1 : (some false) = some r := by rw [if_neg (show ¬ (false = true) by decide)] at H; exact H
                              clear H
                              have H := H1
                              clear H1
                              obtain rfl := Option.some.inj H
                              have p41 : 0 ≤ (x5_2 : Int) := of_decide_eq_true (by first | (with_reducible assumption) | assumption)
                              have q41 : x5_2 < (a1.size : Int) := of_decide_eq_true (by first | (with_reducible assumption) | assumption)
                              have hx41 := bt_at a1 x5_2
                              replace p41 := eq_true p41
                              replace q41 := eq_true q41
                              go_wp2_with (first | (go_at_call 22; (with_reducible refine (spec_wordOk.calls k2 (a1.extract ((ji43) : Int).toNat a1.size) false _ A46.out).mono ?_); rintro e w' ⟨rfl, ⟨nd, rfl⟩⟩))
                              go_ret
                              exact ⟨by first | rfl | (simp; done) | (simp only [← hji43] <;> (first | rfl | simp)) | (simp [*]; done), by repeat (first | exact Drawn0.refl _ | apply Drawn0.step)⟩
                          · rw [if_neg c45] at H
                            exact absurd H (by simp)
                        · rw [if_neg c44] at H
                          exact absurd H (by simp)
                      · rw [if_neg c42] at H
                        have c42b0 : ((bt a1 x5_2) == 45) = false := beq_eq_false_iff_ne.mpr c42
                        have c42b1 : ((bt a1 x5_2) != 45) = true := bne_iff_ne.mpr c42
                        obtain rfl := Option.some.inj H
                        have p41 : 0 ≤ (x5_2 : Int) := of_decide_eq_true (by first | (with_reducible assumption) | assumption)
                        have q41 : x5_2 < (a1.size : Int) := of_decide_eq_true (by first | (with_reducible assumption) | assumption)
                        have hx41 := bt_at a1 x5_2
                        replace p41 := eq_true p41
                        replace q41 := eq_true q41
                        go_wp2
                        go_ret
                        exact ⟨by first | rfl | (simp; done) | (simp [*]; done), by repeat (first | exact Drawn0.refl _ | apply Drawn0.step)⟩
                    · rw [if_neg c40] at H
                      exact absurd H (by simp)
                  · rw [if_neg c39] at H
                    exact absurd H (by simp)
              · rw [if_neg c37] at H
                have c37b0 : (a0.toList == ([] : List UInt8)) = false := beq_eq_false_iff_ne.mpr c37
                have c37b1 : (a0.toList != ([] : List UInt8)) = true := bne_iff_ne.mpr c37
                replace H := Option.bind_eq_some_iff.mp H
                obtain ⟨t108, A500, H⟩ := H
                replace H : (if t108 > 0 then ((spec_Major.f a0).bind fun t109 => (if x6_2 = t109 then ((spec_Major.f a0).bind fun t110 => (if t110 = 0 then (if x6_2 > 1 then (some false) else (if x5_2 = (a1.size : Int) then (some true) else (if 0 ≤ x5_2 then (if x5_2 < (a1.size : Int) then (if (bt a1 x5_2) = 45 then (if 0 ≤ (wrap64 (x5_2 + 1)) then (if (wrap64 (x5_2 + 1)) ≤ (a1.size : Int) then ((spec_wordOk.f k2 (a1.extract ((wrap64 (x5_2 + 1)) : Int).toNat a1.size)).bind fun t111 => (if t111 = true then (if (wrap64 (x5_2 + 1)) < (a1.size : Int) then (some ((bt a1 (wrap64 (x5_2 + 1))) != 118)) else (none)) else (some false))) else (none)) else (none)) else (some false)) else (none)) else (none)))) else (if x5_2 = (a1.size : Int) then (some true) else (if 0 ≤ x5_2 then (if x5_2 < (a1.size : Int) then (if (bt a1 x5_2) = 45 then (if 0 ≤ (wrap64 (x5_2 + 1)) then (if (wrap64 (x5_2 + 1)) ≤ (a1.size : Int) then ((spec_wordOk.f k2 (a1.extract ((wrap64 (x5_2 + 1)) : Int).toNat a1.size)).bind fun t112 => (if t112 = true then (if (wrap64 (x5_2 + 1)) < (a1.size : Int) then (some ((bt a1 (wrap64 (x5_2 + 1))) != 118)) else (none)) else (some false))) else (none)) else (none)) else (some false)) else (none)) else (none))))) else (some false))) else ((spec_Major.f a0).bind fun t113 => (if t113 = 0 then (if x6_2 > 1 then (some false) else (if x5_2 = (a1.size : Int) then (some true) else (if 0 ≤ x5_2 then (if x5_2 < (a1.size : Int) then (if (bt a1 x5_2) = 45 then (if 0 ≤ (wrap64 (x5_2 + 1)) then (if (wrap64 (x5_2 + 1)) ≤ (a1.size : Int) then ((spec_wordOk.f k2 (a1.extract ((wrap64 (x5_2 + 1)) : Int).toNat a1.size)).bind fun t114 => (if t114 = true then (if (wrap64 (x5_2 + 1)) < (a1.size : Int) then (some ((bt a1 (wrap64 (x5_2 + 1))) != 118)) else (none)) else (some false))) else (none)) else (none)) else (some false)) else (none)) else (none)))) else (if x5_2 = (a1.size : Int) then (some true) else (if 0 ≤ x5_2 then (if x5_2 < (a1.size : Int) then (if (bt a1 x5_2) = 45 then (if 0 ≤ (wrap64 (x5_2 + 1)) then (if (wrap64 (x5_2 + 1)) ≤ (a1.size : Int) then ((spec_wordOk.f k2 (a1.extract ((wrap64 (x5_2 + 1)) : Int).toNat a1.size)).bind fun t115 => (if t115 = true then (if (wrap64 (x5_2 + 1)) < (a1.size : Int) then (some ((bt a1 (wrap64 (x5_2 + 1))) != 118)) else (none)) else (some false))) else (none)) else (none)) else (some false)) else (none)) else (none)))))) = some r := H
                have A50 := Aside0.mk A500
                clear A500
                by_cases c51 : t108 > 0
                · rw [if_pos c51] at H
                  have c51b0 : decide (0 < t108) = true := decide_eq_true c51
                  clear c51
                  replace H := Option.bind_eq_some_iff.mp H
                  obtain ⟨t109, A520, H⟩ := H
                  obtain rfl : t109 = t108 := Option.some.inj (A520.symm.trans A50.out)
                  replace H : (if x6_2 = t109 then ((spec_Major.f a0).bind fun t110 => (if t110 = 0 then (if x6_2 > 1 then (some false) else (if x5_2 = (a1.size : Int) then (some true) else (if 0 ≤ x5_2 then (if x5_2 < (a1.size : Int) then (if (bt a1 x5_2) = 45 then (if 0 ≤ (wrap64 (x5_2 + 1)) then (if (wrap64 (x5_2 + 1)) ≤ (a1.size : Int) then ((spec_wordOk.f k2 (a1.extract ((wrap64 (x5_2 + 1)) : Int).toNat a1.size)).bind fun t111 => (if t111 = true then (if (wrap64 (x5_2 + 1)) < (a1.size : Int) then (some ((bt a1 (wrap64 (x5_2 + 1))) != 118)) else (none)) else (some false))) else (none)) else (none)) else (some false)) else (none)) else (none)))) else (if x5_2 = (a1.size : Int) then (some true) else (if 0 ≤ x5_2 then (if x5_2 < (a1.size : Int) then (if (bt a1 x5_2) = 45 then (if 0 ≤ (wrap64 (x5_2 + 1)) then (if (wrap64 (x5_2 + 1)) ≤ (a1.size : Int) then ((spec_wordOk.f k2 (a1.extract ((wrap64 (x5_2 + 1)) : Int).toNat a1.size)).bind fun t112 => (if t112 = true then (if (wrap64 (x5_2 + 1)) < (a1.size : Int) then (some ((bt a1 (wrap64 (x5_2 + 1))) != 118)) else (none)) else (some false))) else (none)) else (none)) else (some false)) else (none)) else (none))))) else (some false)) = some r := H
                  have A52 := Aside0.mk A520
                  clear A520
                  by_cases c53 : x6_2 = t109
                  · rw [if_pos c53] at H
                    have c53b0 : (x6_2 == t109) = true := beq_iff_eq.mpr c53
                    have c53b1 : (x6_2 != t109) = false := bne_eq_false_iff_eq.mpr c53
                    clear c53
                    replace H := Option.bind_eq_some_iff.mp H
                    obtain ⟨t110, A540, H⟩ := H
                    obtain rfl : t110 = t109 := Option.some.inj (A540.symm.trans A50.out)
                    replace H : (if t110 = 0 then (if x6_2 > 1 then (some false) else (if x5_2 = (a1.size : Int) then (some true) else (if 0 ≤ x5_2 then (if x5_2 < (a1.size : Int) then (if (bt a1 x5_2) = 45 then (if 0 ≤ (wrap64 (x5_2 + 1)) then (if (wrap64 (x5_2 + 1)) ≤ (a1.size : Int) then ((spec_wordOk.f k2 (a1.extract ((wrap64 (x5_2 + 1)) : Int).toNat a1.size)).bind fun t111 => (if t111 = true then (if (wrap64 (x5_2 + 1)) < (a1.size : Int) then (some ((bt a1 (wrap64 (x5_2 + 1))) != 118)) else (none)) else (some false))) else (none)) else (none)) else (some false)) else (none)) else (none)))) else (if x5_2 = (a1.size : Int) then (some true) else (if 0 ≤ x5_2 then (if x5_2 < (a1.size : Int) then (if (bt a1 x5_2) = 45 then (if 0 ≤ (wrap64 (x5_2 + 1)) then (if (wrap64 (x5_2 + 1)) ≤ (a1.size : Int) then ((spec_wordOk.f k2 (a1.extract ((wrap64 (x5_2 + 1)) : Int).toNat a1.size)).bind fun t112 => (if t112 = true then (if (wrap64 (x5_2 + 1)) < (a1.size : Int) then (some ((bt a1 (wrap64 (x5_2 + 1))) != 118)) else (none)) else (some false))) else (none)) else (none)) else (some false)) else (none)) else (none)))) = some r := H
                    have A54 := Aside0.mk A540
                    clear A540
                    by_cases c55 : t110 = 0
                    · rw [if_pos c55] at H
                      have c55b0 : (t110 == 0) = true := beq_iff_eq.mpr c55
                      have c55b1 : (t110 != 0) = false := bne_eq_false_iff_eq.mpr c55
                      clear c55
                      by_cases c56 : x6_2 > 1
                      · rw [if_pos c56] at H
                        have c56b0 : decide (1 < x6_2) = true := decide_eq_true c56
                        clear c56
                        obtain rfl := Option.some.inj H
                        go_wp2_with (first | (go_at_call 24; (with_reducible refine (spec_Major.calls a0 t108 _ A50.out).mono ?_); rintro e w' ⟨rfl, ⟨nd, rfl⟩⟩) | (go_at_call 24; (with_reducible refine (spec_Major.calls a0 t109 _ A52.out).mono ?_); rintro e w' ⟨rfl, ⟨nd, rfl⟩⟩) | (go_at_call 24; (with_reducible refine (spec_Major.calls a0 t110 _ A54.out).mono ?_); rintro e w' ⟨rfl, ⟨nd, rfl⟩⟩))
                        go_ret
                        exact ⟨by first | rfl | (simp; done) | (simp [*]; done), by repeat (first | exact Drawn0.refl _ | apply Drawn0.step)⟩
                      · rw [if_neg c56] at H
                        have c56b0 : decide (1 < x6_2) = false := decide_eq_false c56
                        clear c56
                        by_cases c57 : x5_2 = (a1.size : Int)
                        · rw [if_pos c57] at H
                          have c57b0 : (x5_2 == (a1.size : Int)) = true := beq_iff_eq.mpr c57
                          have c57b1 : (x5_2 != (a1.size : Int)) = false := bne_eq_false_iff_eq.mpr c57
                          clear c57
                          obtain rfl := Option.some.inj H
                          go_wp2_with (first | (go_at_call 24; (with_reducible refine (spec_Major.calls a0 t108 _ A50.out).mono ?_); rintro e w' ⟨rfl, ⟨nd, rfl⟩⟩) | (go_at_call 24; (with_reducible refine (spec_Major.calls a0 t109 _ A52.out).mono ?_); rintro e w' ⟨rfl, ⟨nd, rfl⟩⟩) | (go_at_call 24; (with_reducible refine (spec_Major.calls a0 t110 _ A54.out).mono ?_); rintro e w' ⟨rfl, ⟨nd, rfl⟩⟩))
                          go_ret
                          exact ⟨by first | rfl | (simp; done) | (simp [*]; done), by repeat (first | exact Drawn0.refl _ | apply Drawn0.step)⟩
                        · rw [if_neg c57] at H
                          have c57b0 : (x5_2 == (a1.size : Int)) = false := beq_eq_false_iff_ne.mpr c57
                          have c57b1 : (x5_2 != (a1.size : Int)) = true := bne_iff_ne.mpr c57
                          by_cases c58 : 0 ≤ x5_2
                          · rw [if_pos c58] at H
                            have c58b0 : decide (0 ≤ x5_2) = true := decide_eq_true c58
                            clear c58
                            by_cases c59 : x5_2 < (a1.size : Int)
                            · rw [if_pos c59] at H
                              have c59b0 : decide (x5_2 < (a1.size : Int)) = true := decide_eq_true c59
                              clear c59
                              by_cases c61 : (bt a1 x5_2) = 45
                              · rw [if_pos c61] at H
                                have c61b0 : ((bt a1 x5_2) == 45) = true := beq_iff_eq.mpr c61
                                have c61b1 : ((bt a1 x5_2) != 45) = false := bne_eq_false_iff_eq.mpr c61
                                clear c61
                                obtain ⟨ji62, hji62⟩ : ∃ j_ : Int, (wrap64 (x5_2 + 1)) = j_ := ⟨_, rfl⟩
                                replace H : (if 0 ≤ (ji62) then (if (ji62) ≤ (a1.size : Int) then ((spec_wordOk.f k2 (a1.extract ((ji62) : Int).toNat a1.size)).bind fun t111 => (if t111 = true then (if (ji62) < (a1.size : Int) then (some ((bt a1 (ji62)) != 118)) else (none)) else (some false))) else (none)) else (none)) = some r := by first | (rw [hji62] at H; exact H) | (simp only [hji62] at H ⊢; exact H)
                                (try rw [hji62] at A50)
                                (try rw [hji62] at A52)
                                (try rw [hji62] at A54)
                                have hji62w : (IntKind.i64.wrap (x5_2 + 1)) = ji62 := (i64_w _).trans hji62
                                by_cases c63 : 0 ≤ (ji62)
                                · rw [if_pos c63] at H
                                  have c63b0 := eq_true c63
                                  have c63b1 : decide (0 ≤ (ji62)) = true := decide_eq_true c63
                                  clear c63
                                  by_cases c64 : (ji62) ≤ (a1.size : Int)
                                  · rw [if_pos c64] at H
                                    have c64b0 := eq_true c64
                                    have c64b1 : decide ((ji62) ≤ (a1.size : Int)) = true := decide_eq_true c64
                                    clear c64
                                    replace H := Option.bind_eq_some_iff.mp H
                                    obtain ⟨t111, A650, H⟩ := H
                                    replace H : (if t111 = true then (if (ji62) < (a1.size : Int) then (some ((bt a1 (ji62)) != 118)) else (none)) else (some false)) = some r := H
                                    have A65 := Aside0.mk A650
                                    clear A650
                                    by_cases c66 : t111 = true
                                    · subst c66
                                      have H1 : (if (ji62) < (a1.size : Int) then (some ((bt a1 (ji62)) != 118)) else (none)) = some r := by rw [if_pos rfl] at H; exact H
                                      clear H
                                      have H := H1
                                      clear H1
                                      by_cases c67 : (ji62) < (a1.size : Int)
                                      · rw [if_pos c67] at H
                                        have c67b0 : decide ((ji62) < (a1.size : Int)) = true := decide_eq_true c67
                                        clear c67
                                        obtain rfl := Option.some.inj H
                                        go_wp2_with (first | (go_at_call 24; (with_reducible refine (spec_Major.calls a0 t108 _ A50.out).mono ?_); rintro e w' ⟨rfl, ⟨nd, rfl⟩⟩) | (go_at_call 24; (with_reducible refine (spec_Major.calls a0 t109 _ A52.out).mono ?_); rintro e w' ⟨rfl, ⟨nd, rfl⟩⟩) | (go_at_call 24; (with_reducible refine (spec_Major.calls a0 t110 _ A54.out).mono ?_); rintro e w' ⟨rfl, ⟨nd, rfl⟩⟩; have p60 : 0 ≤ (x5_2 : Int) := of_decide_eq_true (by first | (with_reducible assumption) | assumption); have q60 : x5_2 < (a1.size : Int) := of_decide_eq_true (by first | (with_reducible assumption) | assumption); have hx60 := bt_at a1 x5_2; replace p60 := eq_true p60; replace q60 := eq_true q60) | (go_at_call 22; (with_reducible refine (spec_wordOk.calls k2 (a1.extract ((ji62) : Int).toNat a1.size) true _ A65.out).mono ?_); rintro e w' ⟨rfl, ⟨nd, rfl⟩⟩; have p68 : 0 ≤ ((ji62) : Int) := of_decide_eq_true (by first | (with_reducible assumption) | assumption); have q68 : (ji62) < (a1.size : Int) := of_decide_eq_true (by first | (with_reducible assumption) | assumption); have hx68 := bt_at a1 (ji62); replace p68 := eq_true p68; replace q68 := eq_true q68))
                                        go_ret
                                        exact ⟨by first | rfl | (simp; done) | (simp only [← hji62] <;> (first | rfl | simp)) | (simp [*]; done), by repeat (first | exact Drawn0.refl _ | apply Drawn0.step)⟩
                                      · rw [if_neg c67] at H
                                        exact absurd H (by simp)
                                    · replace c66 := Bool.eq_false_iff.mpr c66
                                      subst c66
                                      have H1 : (some false) = some r := by rw [if_neg (show ¬ (false = true) by decide)] at H; exact H
                                      clear H
                                      have H := H1
                                      clear H1
                                      obtain rfl := Option.some.inj H
                                      go_wp2_with (first | (go_at_call 24; (with_reducible refine (spec_Major.calls a0 t108 _ A50.out).mono ?_); rintro e w' ⟨rfl, ⟨nd, rfl⟩⟩) | (go_at_call 24; (with_reducible refine (spec_Major.calls a0 t109 _ A52.out).mono ?_); rintro e w' ⟨rfl, ⟨nd, rfl⟩⟩) | (go_at_call 24; (with_reducible refine (spec_Major.calls a0 t110 _ A54.out).mono ?_); rintro e w' ⟨rfl, ⟨nd, rfl⟩⟩; have p60 : 0 ≤ (x5_2 : Int) := of_decide_eq_true (by first | (with_reducible assumption) | assumption); have q60 : x5_2 < (a1.size : Int) := of_decide_eq_true (by first | (with_reducible assumption) | assumption); have hx60 := bt_at a1 x5_2; replace p60 := eq_true p60; replace q60 := eq_true q60) | (go_at_call 22; (with_reducible refine (spec_wordOk.calls k2 (a1.extract ((ji62) : Int).toNat a1.size) false _ A65.out).mono ?_); rintro e w' ⟨rfl, ⟨nd, rfl⟩⟩))
                                      go_ret
                                      exact ⟨by first | rfl | (simp; done) | (simp only [← hji62] <;> (first | rfl | simp)) | (simp [*]; done), by repeat (first | exact Drawn0.refl _ | apply Drawn0.step)⟩
                                  · rw [if_neg c64] at H
                                    exact absurd H (by simp)
                                · rw [if_neg c63] at H
                                  exact absurd H (by simp)
                              · rw [if_neg c61] at H
                                have c61b0 : ((bt a1 x5_2) == 45) = false := beq_eq_false_iff_ne.mpr c61
                                have c61b1 : ((bt a1 x5_2) != 45) = true := bne_iff_ne.mpr c61
                                obtain rfl := Option.some.inj H
                                go_wp2_with (first | (go_at_call 24; (with_reducible refine (spec_Major.calls a0 t108 _ A50.out).mono ?_); rintro e w' ⟨rfl, ⟨nd, rfl⟩⟩) | (go_at_call 24; (with_reducible refine (spec_Major.calls a0 t109 _ A52.out).mono ?_); rintro e w' ⟨rfl, ⟨nd, rfl⟩⟩) | (go_at_call 24; (with_reducible refine (spec_Major.calls a0 t110 _ A54.out).mono ?_); rintro e w' ⟨rfl, ⟨nd, rfl⟩⟩; have p60 : 0 ≤ (x5_2 : Int) := of_decide_eq_true (by first | (with_reducible assumption) | assumption); have q60 : x5_2 < (a1.size : Int) := of_decide_eq_true (by first | (with_reducible assumption) | assumption); have hx60 := bt_at a1 x5_2; replace p60 := eq_true p60; replace q60 := eq_true q60))
                                go_ret
                                exact ⟨by first | rfl | (simp; done) | (simp [*]; done), by repeat (first | exact Drawn0.refl _ | apply Drawn0.step)⟩
                            · rw [if_neg c59] at H
                              exact absurd H (by simp)
                          · rw [if_neg c58] at H
                            exact absurd H (by simp)
                    · rw [if_neg c55] at H
                      have c55b0 : (t110 == 0) = false := beq_eq_false_iff_ne.mpr c55
                      have c55b1 : (t110 != 0) = true := bne_iff_ne.mpr c55
                      by_cases c69 : x5_2 = (a1.size : Int)
                      · rw [if_pos c69] at H
                        have c69b0 : (x5_2 == (a1.size : Int)) = true := beq_iff_eq.mpr c69
                        have c69b1 : (x5_2 != (a1.size : Int)) = false := bne_eq_false_iff_eq.mpr c69
                        clear c69
                        obtain rfl := Option.some.inj H
                        go_wp2_with (first | (go_at_call 24; (with_reducible refine (spec_Major.calls a0 t108 _ A50.out).mono ?_); rintro e w' ⟨rfl, ⟨nd, rfl⟩⟩) | (go_at_call 24; (with_reducible refine (spec_Major.calls a0 t109 _ A52.out).mono ?_); rintro e w' ⟨rfl, ⟨nd, rfl⟩⟩) | (go_at_call 24; (with_reducible refine (spec_Major.calls a0 t110 _ A54.out).mono ?_); rintro e w' ⟨rfl, ⟨nd, rfl⟩⟩))
                        go_ret
                        exact ⟨by first | rfl | (simp; done) | (simp [*]; done), by repeat (first | exact Drawn0.refl _ | apply Drawn0.step)⟩
                      · rw [if_neg c69] at H
                        have c69b0 : (x5_2 == (a1.size : Int)) = false := beq_eq_false_iff_ne.mpr c69
                        have c69b1 : (x5_2 != (a1.size : Int)) = true := bne_iff_ne.mpr c69
                        by_cases c70 : 0 ≤ x5_2
                        · rw [if_pos c70] at H
                          have c70b0 : decide (0 ≤ x5_2) = true := decide_eq_true c70
                          clear c70
                          by_cases c71 : x5_2 < (a1.size : Int)
                          · rw [if_pos c71] at H
                            have c71b0 : decide (x5_2 < (a1.size : Int)) = true := decide_eq_true c71
                            clear c71
                            by_cases c73 : (bt a1 x5_2) = 45
                            · rw [if_pos c73] at H
                              have c73b0 : ((bt a1 x5_2) == 45) = true := beq_iff_eq.mpr c73
                              have c73b1 : ((bt a1 x5_2) != 45) = false := bne_eq_false_iff_eq.mpr c73
                              clear c73
                              obtain ⟨ji74, hji74⟩ : ∃ j_ : Int, (wrap64 (x5_2 + 1)) = j_ := ⟨_, rfl⟩
                              replace H : (if 0 ≤ (ji74) then (if (ji74) ≤ (a1.size : Int) then ((spec_wordOk.f k2 (a1.extract ((ji74) : Int).toNat a1.size)).bind fun t112 => (if t112 = true then (if (ji74) < (a1.size : Int) then (some ((bt a1 (ji74)) != 118)) else (none)) else (some false))) else (none)) else (none)) = some r := by first | (rw [hji74] at H; exact H) | (simp only [hji74] at H ⊢; exact H)
                              (try rw [hji74] at A50)
                              (try rw [hji74] at A52)
                              (try rw [hji74] at A54)
                              have hji74w : (IntKind.i64.wrap (x5_2 + 1)) = ji74 := (i64_w _).trans hji74
                              by_cases c75 : 0 ≤ (ji74)
                              · rw [if_pos c75] at H
                                have c75b0 := eq_true c75
                                have c75b1 : decide (0 ≤ (ji74)) = true := decide_eq_true c75
                                clear c75
                                by_cases c76 : (ji74) ≤ (a1.size : Int)
                                · rw [if_pos c76] at H
                                  have c76b0 := eq_true c76
                                  have c76b1 : decide ((ji74) ≤ (a1.size : Int)) = true := decide_eq_true c76
                                  clear c76
                                  replace H := Option.bind_eq_some_iff.mp H
                                  obtain ⟨t112, A770, H⟩ := H
                                  replace H : (if t112 = true then (if (ji74) < (a1.size : Int) then (some ((bt a1 (ji74)) != 118)) else (none)) else (some false)) = some r := H
                                  have A77 := Aside0.mk A770
                                  clear A770
                                  by_cases c78 : t112 = true
                                  · subst c78
                                    have H1 : (if (ji74) < (a1.size : Int) then (some ((bt a1 (ji74)) != 118)) else (none)) = some r := by rw [if_pos rfl] at H; exact H
                                    clear H
                                    have H := H1
                                    clear H1
                                    by_cases c79 : (ji74) < (a1.size : Int)
                                    · rw [if_pos c79] at H
                                      have c79b0 : decide ((ji74) < (a1.size : Int)) = true := decide_eq_true c79
                                      clear c79
                                      obtain rfl := Option.some.inj H
                                      go_wp2_with (first | (go_at_call 24; (with_reducible refine (spec_Major.calls a0 t108 _ A50.out).mono ?_); rintro e w' ⟨rfl, ⟨nd, rfl⟩⟩) | (go_at_call 24; (with_reducible refine (spec_Major.calls a0 t109 _ A52.out).mono ?_); rintro e w' ⟨rfl, ⟨nd, rfl⟩⟩) | (go_at_call 24; (with_reducible refine (spec_Major.calls a0 t110 _ A54.out).mono ?_); rintro e w' ⟨rfl, ⟨nd, rfl⟩⟩; have p72 : 0 ≤ (x5_2 : Int) := of_decide_eq_true (by first | (with_reducible assumption) | assumption); have q72 : x5_2 < (a1.size : Int) := of_decide_eq_true (by first | (with_reducible assumption) | assumption); have hx72 := bt_at a1 x5_2; replace p72 := eq_true p72; replace q72 := eq_true q72) | (go_at_call 22; (with_reducible refine (spec_wordOk.calls k2 (a1.extract ((ji74) : Int).toNat a1.size) true _ A77.out).mono ?_); rintro e w' ⟨rfl, ⟨nd, rfl⟩⟩; have p80 : 0 ≤ ((ji74) : Int) := of_decide_eq_true (by first | (with_reducible assumption) | assumption); have q80 : (ji74) < (a1.size : Int) := of_decide_eq_true (by first | (with_reducible assumption) | assumption); have hx80 := bt_at a1 (ji74); replace p80 := eq_true p80; replace q80 := eq_true q80))
                                      go_ret
                                      exact ⟨by first | rfl | (simp; done) | (simp only [← hji74] <;> (first | rfl | simp)) | (simp [*]; done), by repeat (first | exact Drawn0.refl _ | apply Drawn0.step)⟩
                                    · rw [if_neg c79] at H
                                      exact absurd H (by simp)
                                  · replace c78 := Bool.eq_false_iff.mpr c78
                                    subst c78
                                    have H1 : (some false) = some r := by rw [if_neg (show ¬ (false = true) by decide)] at H; exact H
                                    clear H
                                    have H := H1
                                    clear H1
                                    obtain rfl := Option.some.inj H
                                    go_wp2_with (first | (go_at_call 24; (with_reducible refine (spec_Major.calls a0 t108 _ A50.out).mono ?_); rintro e w' ⟨rfl, ⟨nd, rfl⟩⟩) | (go_at_call 24; (with_reducible refine (spec_Major.calls a0 t109 _ A52.out).mono ?_); rintro e w' ⟨rfl, ⟨nd, rfl⟩⟩) | (go_at_call 24; (with_reducible refine (spec_Major.calls a0 t110 _ A54.out).mono ?_); rintro e w' ⟨rfl, ⟨nd, rfl⟩⟩; have p72 : 0 ≤ (x5_2 : Int) := of_decide_eq_true (by first | (with_reducible assumption) | assumption); have q72 : x5_2 < (a1.size : Int) := of_decide_eq_true (by first | (with_reducible assumption) | assumption); have hx72 := bt_at a1 x5_2; replace p72 := eq_true p72; replace q72 := eq_true q72) | (go_at_call 22; (with_reducible refine (spec_wordOk.calls k2 (a1.extract ((ji74) : Int).toNat a1.size) false _ A77.out).mono ?_); rintro e w' ⟨rfl, ⟨nd, rfl⟩⟩))
                                    go_ret
                                    exact ⟨by first | rfl | (simp; done) | (simp only [← hji74] <;> (first | rfl | simp)) | (simp [*]; done), by repeat (first | exact Drawn0.refl _ | apply Drawn0.step)⟩
                                · rw [if_neg c76] at H
                                  exact absurd H (by simp)
                              · rw [if_neg c75] at H
                                exact absurd H (by simp)
                            · rw [if_neg c73] at H
                              have c73b0 : ((bt a1 x5_2) == 45) = false := beq_eq_false_iff_ne.mpr c73
                              have c73b1 : ((bt a1 x5_2) != 45) = true := bne_iff_ne.mpr c73
                              obtain rfl := Option.some.inj H
                              go_wp2_with (first | (go_at_call 24; (with_reducible refine (spec_Major.calls a0 t108 _ A50.out).mono ?_); rintro e w' ⟨rfl, ⟨nd, rfl⟩⟩) | (go_at_call 24; (with_reducible refine (spec_Major.calls a0 t109 _ A52.out).mono ?_); rintro e w' ⟨rfl, ⟨nd, rfl⟩⟩) | (go_at_call 24; (with_reducible refine (spec_Major.calls a0 t110 _ A54.out).mono ?_); rintro e w' ⟨rfl, ⟨nd, rfl⟩⟩; have p72 : 0 ≤ (x5_2 : Int) := of_decide_eq_true (by first | (with_reducible assumption) | assumption); have q72 : x5_2 < (a1.size : Int) := of_decide_eq_true (by first | (with_reducible assumption) | assumption); have hx72 := bt_at a1 x5_2; replace p72 := eq_true p72; replace q72 := eq_true q72))
                              go_ret
                              exact ⟨by first | rfl | (simp; done) | (simp [*]; done), by repeat (first | exact Drawn0.refl _ | apply Drawn0.step)⟩
                          · rw [if_neg c71] at H
                            exact absurd H (by simp)
                        · rw [if_neg c70] at H
                          exact absurd H (by simp)
                  · rw [if_neg c53] at H
                    have c53b0 : (x6_2 == t109) = false := beq_eq_false_iff_ne.mpr c53
                    have c53b1 : (x6_2 != t109) = true := bne_iff_ne.mpr c53
                    obtain rfl := Option.some.inj H
                    go_wp2_with (first | (go_at_call 24; (with_reducible refine (spec_Major.calls a0 t108 _ A50.out).mono ?_); rintro e w' ⟨rfl, ⟨nd, rfl⟩⟩) | (go_at_call 24; (with_reducible refine (spec_Major.calls a0 t109 _ A52.out).mono ?_); rintro e w' ⟨rfl, ⟨nd, rfl⟩⟩))
                    go_ret
                    exact ⟨by first | rfl | (simp; done) | (simp [*]; done), by repeat (first | exact Drawn0.refl _ | apply Drawn0.step)⟩
                · rw [if_neg c51] at H
                  have c51b0 : decide (0 < t108) = false := decide_eq_false c51
                  clear c51
                  replace H := Option.bind_eq_some_iff.mp H
                  obtain ⟨t113, A810, H⟩ := H
                  obtain rfl : t113 = t108 := Option.some.inj (A810.symm.trans A50.out)
                  replace H : (if t113 = 0 then (if x6_2 > 1 then (some false) else (if x5_2 = (a1.size : Int) then (some true) else (if 0 ≤ x5_2 then (if x5_2 < (a1.size : Int) then (if (bt a1 x5_2) = 45 then (if 0 ≤ (wrap64 (x5_2 + 1)) then (if (wrap64 (x5_2 + 1)) ≤ (a1.size : Int) then ((spec_wordOk.f k2 (a1.extract ((wrap64 (x5_2 + 1)) : Int).toNat a1.size)).bind fun t114 => (if t114 = true then (if (wrap64 (x5_2 + 1)) < (a1.size : Int) then (some ((bt a1 (wrap64 (x5_2 + 1))) != 118)) else (none)) else (some false))) else (none)) else (none)) else (some false)) else (none)) else (none)))) else (if x5_2 = (a1.size : Int) then (some true) else (if 0 ≤ x5_2 then (if x5_2 < (a1.size : Int) then (if (bt a1 x5_2) = 45 then (if 0 ≤ (wrap64 (x5_2 + 1)) then (if (wrap64 (x5_2 + 1)) ≤ (a1.size : Int) then ((spec_wordOk.f k2 (a1.extract ((wrap64 (x5_2 + 1)) : Int).toNat a1.size)).bind fun t115 => (if t115 = true then (if (wrap64 (x5_2 + 1)) < (a1.size : Int) then (some ((bt a1 (wrap64 (x5_2 + 1))) != 118)) else (none)) else (some false))) else (none)) else (none)) else (some false)) else (none)) else (none)))) = some r := H
                  have A81 := Aside0.mk A810
                  clear A810
                  by_cases c82 : t113 = 0
                  · rw [if_pos c82] at H
                    have c82b0 : (t113 == 0) = true := beq_iff_eq.mpr c82
                    have c82b1 : (t113 != 0) = false := bne_eq_false_iff_eq.mpr c82
                    clear c82
                    by_cases c83 : x6_2 > 1
                    · rw [if_pos c83] at H
                      have c83b0 : decide (1 < x6_2) = true := decide_eq_true c83
                      clear c83
                      obtain rfl := Option.some.inj H
                      go_wp2_with (first | (go_at_call 24; (with_reducible refine (spec_Major.calls a0 t108 _ A50.out).mono ?_); rintro e w' ⟨rfl, ⟨nd, rfl⟩⟩) | (go_at_call 24; (with_reducible refine (spec_Major.calls a0 t113 _ A81.out).mono ?_); rintro e w' ⟨rfl, ⟨nd, rfl⟩⟩))
                      go_ret
                      exact ⟨by first | rfl | (simp; done) | (simp [*]; done), by repeat (first | exact Drawn0.refl _ | apply Drawn0.step)⟩
                    · rw [if_neg c83] at H
                      have c83b0 : decide (1 < x6_2) = false := decide_eq_false c83
                      clear c83
                      by_cases c84 : x5_2 = (a1.size : Int)
                      · rw [if_pos c84] at H
                        have c84b0 : (x5_2 == (a1.size : Int)) = true := beq_iff_eq.mpr c84
                        have c84b1 : (x5_2 != (a1.size : Int)) = false := bne_eq_false_iff_eq.mpr c84
                        clear c84
                        obtain rfl := Option.some.inj H
                        go_wp2_with (first | (go_at_call 24; (with_reducible refine (spec_Major.calls a0 t108 _ A50.out).mono ?_); rintro e w' ⟨rfl, ⟨nd, rfl⟩⟩) | (go_at_call 24; (with_reducible refine (spec_Major.calls a0 t113 _ A81.out).mono ?_); rintro e w' ⟨rfl, ⟨nd, rfl⟩⟩))
                        go_ret
                        exact ⟨by first | rfl | (simp; done) | (simp [*]; done), by repeat (first | exact Drawn0.refl _ | apply Drawn0.step)⟩
                      · rw [if_neg c84] at H
                        have c84b0 : (x5_2 == (a1.size : Int)) = false := beq_eq_false_iff_ne.mpr c84
                        have c84b1 : (x5_2 != (a1.size : Int)) = true := bne_iff_ne.mpr c84
                        by_cases c85 : 0 ≤ x5_2
                        · rw [if_pos c85] at H
                          have c85b0 : decide (0 ≤ x5_2) = true := decide_eq_true c85
                          clear c85
                          by_cases c86 : x5_2 < (a1.size : Int)
                          · rw [if_pos c86] at H
                            have c86b0 : decide (x5_2 < (a1.size : Int)) = true := decide_eq_true c86
                            clear c86
                            by_cases c88 : (bt a1 x5_2) = 45
                            · rw [if_pos c88] at H
                              have c88b0 : ((bt a1 x5_2) == 45) = true := beq_iff_eq.mpr c88
                              have c88b1 : ((bt a1 x5_2) != 45) = false := bne_eq_false_iff_eq.mpr c88
                              clear c88
                              obtain ⟨ji89, hji89⟩ : ∃ j_ : Int, (wrap64 (x5_2 + 1)) = j_ := ⟨_, rfl⟩
                              replace H : (if 0 ≤ (ji89) then (if (ji89) ≤ (a1.size : Int) then ((spec_wordOk.f k2 (a1.extract ((ji89) : Int).toNat a1.size)).bind fun t114 => (if t114 = true then (if (ji89) < (a1.size : Int) then (some ((bt a1 (ji89)) != 118)) else (none)) else (some false))) else (none)) else (none)) = some r := by first | (rw [hji89] at H; exact H) | (simp only [hji89] at H ⊢; exact H)
                              (try rw [hji89] at A50)
                              (try rw [hji89] at A81)
                              have hji89w : (IntKind.i64.wrap (x5_2 + 1)) = ji89 := (i64_w _).trans hji89
                              by_cases c90 : 0 ≤ (ji89)
                              · rw [if_pos c90] at H
                                have c90b0 := eq_true c90
                                have c90b1 : decide (0 ≤ (ji89)) = true := decide_eq_true c90
                                clear c90
                                by_cases c91 : (ji89) ≤ (a1.size : Int)
                                · rw [if_pos c91] at H
                                  have c91b0 := eq_true c91
                                  have c91b1 : decide ((ji89) ≤ (a1.size : Int)) = true := decide_eq_true c91
                                  clear c91
                                  replace H := Option.bind_eq_some_iff.mp H
                                  obtain ⟨t114, A920, H⟩ := H
                                  replace H : (if t114 = true then (if (ji89) < (a1.size : Int) then (some ((bt a1 (ji89)) != 118)) else (none)) else (some false)) = some r := H
                                  have A92 := Aside0.mk A920
                                  clear A920
                                  by_cases c93 : t114 = true
                                  · subst c93
                                    have H1 : (if (ji89) < (a1.size : Int) then (some ((bt a1 (ji89)) != 118)) else (none)) = some r := by rw [if_pos rfl] at H; exact H
                                    clear H
                                    have H := H1
                                    clear H1
                                    by_cases c94 : (ji89) < (a1.size : Int)
                                    · rw [if_pos c94] at H
                                      have c94b0 : decide ((ji89) < (a1.size : Int)) = true := decide_eq_true c94
                                      clear c94
                                      obtain rfl := Option.some.inj H
                                      go_wp2_with (first | (go_at_call 24; (with_reducible refine (spec_Major.calls a0 t108 _ A50.out).mono ?_); rintro e w' ⟨rfl, ⟨nd, rfl⟩⟩) | (go_at_call 24; (with_reducible refine (spec_Major.calls a0 t113 _ A81.out).mono ?_); rintro e w' ⟨rfl, ⟨nd, rfl⟩⟩; have p87 : 0 ≤ (x5_2 : Int) := of_decide_eq_true (by first | (with_reducible assumption) | assumption); have q87 : x5_2 < (a1.size : Int) := of_decide_eq_true (by first | (with_reducible assumption) | assumption); have hx87 := bt_at a1 x5_2; replace p87 := eq_true p87; replace q87 := eq_true q87) | (go_at_call 22; (with_reducible refine (spec_wordOk.calls k2 (a1.extract ((ji89) : Int).toNat a1.size) true _ A92.out).mono ?_); rintro e w' ⟨rfl, ⟨nd, rfl⟩⟩; have p95 : 0 ≤ ((ji89) : Int) := of_decide_eq_true (by first | (with_reducible assumption) | assumption); have q95 : (ji89) < (a1.size : Int) := of_decide_eq_true (by first | (with_reducible assumption) | assumption); have hx95 := bt_at a1 (ji89); replace p95 := eq_true p95; replace q95 := eq_true q95))
                                      go_ret
                                      exact ⟨by first | rfl | (simp; done) | (simp only [← hji89] <;> (first | rfl | simp)) | (simp [*]; done), by repeat (first | exact Drawn0.refl _ | apply Drawn0.step)⟩
                                    · rw [if_neg c94] at H
                                      exact absurd H (by simp)
                                  · replace c93 := Bool.eq_false_iff.mpr c93
                                    subst c93
                                    have H1 : (some false) = some r := by rw [if_neg (show ¬ (false = true) by decide)] at H; exact H
                                    clear H
                                    have H := H1
                                    clear H1
                                    obtain rfl := Option.some.inj H
                                    go_wp2_with (first | (go_at_call 24; (with_reducible refine (spec_Major.calls a0 t108 _ A50.out).mono ?_); rintro e w' ⟨rfl, ⟨nd, rfl⟩⟩) | (go_at_call 24; (with_reducible refine (spec_Major.calls a0 t113 _ A81.out).mono ?_); rintro e w' ⟨rfl, ⟨nd, rfl⟩⟩; have p87 : 0 ≤ (x5_2 : Int) := of_decide_eq_true (by first | (with_reducible assumption) | assumption); have q87 : x5_2 < (a1.size : Int) := of_decide_eq_true (by first | (with_reducible assumption) | assumption); have hx87 := bt_at a1 x5_2; replace p87 := eq_true p87; replace q87 := eq_true q87) | (go_at_call 22; (with_reducible refine (spec_wordOk.calls k2 (a1.extract ((ji89) : Int).toNat a1.size) false _ A92.out).mono ?_); rintro e w' ⟨rfl, ⟨nd, rfl⟩⟩))
                                    go_ret
                                    exact ⟨by first | rfl | (simp; done) | (simp only [← hji89] <;> (first | rfl | simp)) | (simp [*]; done), by repeat (first | exact Drawn0.refl _ | apply Drawn0.step)⟩
                                · rw [if_neg c91] at H
                                  exact absurd H (by simp)
                              · rw [if_neg c90] at H
                                exact absurd H (by simp)
                            · rw [if_neg c88] at H
                              have c88b0 : ((bt a1 x5_2) == 45) = false := beq_eq_false_iff_ne.mpr c88
                              have c88b1 : ((bt a1 x5_2) != 45) = true := bne_iff_ne.mpr c88
                              obtain rfl := Option.some.inj H
                              go_wp2_with (first | (go_at_call 24; (with_reducible refine (spec_Major.calls a0 t108 _ A50.out).mono ?_); rintro e w' ⟨rfl, ⟨nd, rfl⟩⟩) | (go_at_call 24; (with_reducible refine (spec_Major.calls a0 t113 _ A81.out).mono ?_); rintro e w' ⟨rfl, ⟨nd, rfl⟩⟩; have p87 : 0 ≤ (x5_2 : Int) := of_decide_eq_true (by first | (with_reducible assumption) | assumption); have q87 : x5_2 < (a1.size : Int) := of_decide_eq_true (by first | (with_reducible assumption) | assumption); have hx87 := bt_at a1 x5_2; replace p87 := eq_true p87; replace q87 := eq_true q87))
                              go_ret
                              exact ⟨by first | rfl | (simp; done) | (simp [*]; done), by repeat (first | exact Drawn0.refl _ | apply Drawn0.step)⟩
                          · rw [if_neg c86] at H
                            exact absurd H (by simp)
                        · rw [if_neg c85] at H
                          exact absurd H (by simp)
                  · rw [if_neg c82] at H
                    have c82b0 : (t113 == 0) = false := beq_eq_false_iff_ne.mpr c82
                    have c82b1 : (t113 != 0) = true := bne_iff_ne.mpr c82
                    by_cases c96 : x5_2 = (a1.size : Int)
                    · rw [if_pos c96] at H
                      have c96b0 : (x5_2 == (a1.size : Int)) = true := beq_iff_eq.mpr c96
                      have c96b1 : (x5_2 != (a1.size : Int)) = false := bne_eq_false_iff_eq.mpr c96
                      clear c96
                      obtain rfl := Option.some.inj H
                      go_wp2_with (first | (go_at_call 24; (with_reducible refine (spec_Major.calls a0 t108 _ A50.out).mono ?_); rintro e w' ⟨rfl, ⟨nd, rfl⟩⟩) | (go_at_call 24; (with_reducible refine (spec_Major.calls a0 t113 _ A81.out).mono ?_); rintro e w' ⟨rfl, ⟨nd, rfl⟩⟩))
                      go_ret
                      exact ⟨by first | rfl | (simp; done) | (simp [*]; done), by repeat (first | exact Drawn0.refl _ | apply Drawn0.step)⟩
                    · rw [if_neg c96] at H
                      have c96b0 : (x5_2 == (a1.size : Int)) = false := beq_eq_false_iff_ne.mpr c96
                      have c96b1 : (x5_2 != (a1.size : Int)) = true := bne_iff_ne.mpr c96
                      by_cases c97 : 0 ≤ x5_2
                      · rw [if_pos c97] at H
                        have c97b0 : decide (0 ≤ x5_2) = true := decide_eq_true c97
                        clear c97
                        by_cases c98 : x5_2 < (a1.size : Int)
                        · rw [if_pos c98] at H
                          have c98b0 : decide (x5_2 < (a1.size : Int)) = true := decide_eq_true c98
                          clear c98
                          by_cases c100 : (bt a1 x5_2) = 45
                          · rw [if_pos c100] at H
                            have c100b0 : ((bt a1 x5_2) == 45) = true := beq_iff_eq.mpr c100
                            have c100b1 : ((bt a1 x5_2) != 45) = false := bne_eq_false_iff_eq.mpr c100
                            clear c100
                            obtain ⟨ji101, hji101⟩ : ∃ j_ : Int, (wrap64 (x5_2 + 1)) = j_ := ⟨_, rfl⟩
                            replace H : (if 0 ≤ (ji101) then (if (ji101) ≤ (a1.size : Int) then ((spec_wordOk.f k2 (a1.extract ((ji101) : Int).toNat a1.size)).bind fun t115 => (if t115 = true then (if (ji101) < (a1.size : Int) then (some ((bt a1 (ji101)) != 118)) else (none)) else (some false))) else (none)) else (none)) = some r := by first | (rw [hji101] at H; exact H) | (simp only [hji101] at H ⊢; exact H)
                            (try rw [hji101] at A50)
                            (try rw [hji101] at A81)
                            have hji101w : (IntKind.i64.wrap (x5_2 + 1)) = ji101 := (i64_w _).trans hji101
                            by_cases c102 : 0 ≤ (ji101)
                            · rw [if_pos c102] at H
                              have c102b0 := eq_true c102
                              have c102b1 : decide (0 ≤ (ji101)) = true := decide_eq_true c102
                              clear c102
                              by_cases c103 : (ji101) ≤ (a1.size : Int)
                              · rw [if_pos c103] at H
                                have c103b0 := eq_true c103
                                have c103b1 : decide ((ji101) ≤ (a1.size : Int)) = true := decide_eq_true c103
                                clear c103
                                replace H := Option.bind_eq_some_iff.mp H
                                obtain ⟨t115, A1040, H⟩ := H
                                replace H : (if t115 = true then (if (ji101) < (a1.size : Int) then (some ((bt a1 (ji101)) != 118)) else (none)) else (some false)) = some r := H
                                have A104 := Aside0.mk A1040
                                clear A1040
                                by_cases c105 : t115 = true
                                · subst c105
                                  have H1 : (if (ji101) < (a1.size : Int) then (some ((bt a1 (ji101)) != 118)) else (none)) = some r := by rw [if_pos rfl] at H; exact H
                                  clear H
                                  have H := H1
                                  clear H1
                                  by_cases c106 : (ji101) < (a1.size : Int)
                                  · rw [if_pos c106] at H
                                    have c106b0 : decide ((ji101) < (a1.size : Int)) = true := decide_eq_true c106
                                    clear c106
                                    obtain rfl := Option.some.inj H
                                    go_wp2_with (first | (go_at_call 24; (with_reducible refine (spec_Major.calls a0 t108 _ A50.out).mono ?_); rintro e w' ⟨rfl, ⟨nd, rfl⟩⟩) | (go_at_call 24; (with_reducible refine (spec_Major.calls a0 t113 _ A81.out).mono ?_); rintro e w' ⟨rfl, ⟨nd, rfl⟩⟩; have p99 : 0 ≤ (x5_2 : Int) := of_decide_eq_true (by first | (with_reducible assumption) | assumption); have q99 : x5_2 < (a1.size : Int) := of_decide_eq_true (by first | (with_reducible assumption) | assumption); have hx99 := bt_at a1 x5_2; replace p99 := eq_true p99; replace q99 := eq_true q99) | (go_at_call 22; (with_reducible refine (spec_wordOk.calls k2 (a1.extract ((ji101) : Int).toNat a1.size) true _ A104.out).mono ?_); rintro e w' ⟨rfl, ⟨nd, rfl⟩⟩; have p107 : 0 ≤ ((ji101) : Int) := of_decide_eq_true (by first | (with_reducible assumption) | assumption); have q107 : (ji101) < (a1.size : Int) := of_decide_eq_true (by first | (with_reducible assumption) | assumption); have hx107 := bt_at a1 (ji101); replace p107 := eq_true p107; replace q107 := eq_true q107))
                                    go_ret
                                    exact ⟨by first | rfl | (simp; done) | (simp only [← hji101] <;> (first | rfl | simp)) | (simp [*]; done), by repeat (first | exact Drawn0.refl _ | apply Drawn0.step)⟩
                                  · rw [if_neg c106] at H
                                    exact absurd H (by simp)
                                · replace c105 := Bool.eq_false_iff.mpr c105
                                  subst c105
                                  have H1 : (some false) = some r := by rw [if_neg (show ¬ (false = true) by decide)] at H; exact H
                                  clear H
                                  have H := H1
                                  clear H1
                                  obtain rfl := Option.some.inj H
                                  go_wp2_with (first | (go_at_call 24; (with_reducible refine (spec_Major.calls a0 t108 _ A50.out).mono ?_); rintro e w' ⟨rfl, ⟨nd, rfl⟩⟩) | (go_at_call 24; (with_reducible refine (spec_Major.calls a0 t113 _ A81.out).mono ?_); rintro e w' ⟨rfl, ⟨nd, rfl⟩⟩; have p99 : 0 ≤ (x5_2 : Int) := of_decide_eq_true (by first | (with_reducible assumption) | assumption); have q99 : x5_2 < (a1.size : Int) := of_decide_eq_true (by first | (with_reducible assumption) | assumption); have hx99 := bt_at a1 x5_2; replace p99 := eq_true p99; replace q99 := eq_true q99) | (go_at_call 22; (with_reducible refine (spec_wordOk.calls k2 (a1.extract ((ji101) : Int).toNat a1.size) false _ A104.out).mono ?_); rintro e w' ⟨rfl, ⟨nd, rfl⟩⟩))
                                  go_ret
                                  exact ⟨by first | rfl | (simp; done) | (simp only [← hji101] <;> (first | rfl | simp)) | (simp [*]; done), by repeat (first | exact Drawn0.refl _ | apply Drawn0.step)⟩
                              · rw [if_neg c103] at H
                                exact absurd H (by simp)
                            · rw [if_neg c102] at H
                              exact absurd H (by simp)
                          · rw [if_neg c100] at H
                            have c100b0 : ((bt a1 x5_2) == 45) = false := beq_eq_false_iff_ne.mpr c100
                            have c100b1 : ((bt a1 x5_2) != 45) = true := bne_iff_ne.mpr c100
                            obtain rfl := Option.some.inj H
                            go_wp2_with (first | (go_at_call 24; (with_reducible refine (spec_Major.calls a0 t108 _ A50.out).mono ?_); rintro e w' ⟨rfl, ⟨nd, rfl⟩⟩) | (go_at_call 24; (with_reducible refine (spec_Major.calls a0 t113 _ A81.out).mono ?_); rintro e w' ⟨rfl, ⟨nd, rfl⟩⟩; have p99 : 0 ≤ (x5_2 : Int) := of_decide_eq_true (by first | (with_reducible assumption) | assumption); have q99 : x5_2 < (a1.size : Int) := of_decide_eq_true (by first | (with_reducible assumption) | assumption); have hx99 := bt_at a1 x5_2; replace p99 := eq_true p99; replace q99 := eq_true q99))
                            go_ret
                            exact ⟨by first | rfl | (simp; done) | (simp [*]; done), by repeat (first | exact Drawn0.refl _ | apply Drawn0.step)⟩
                        · rw [if_neg c98] at H
                          exact absurd H (by simp)
                      · rw [if_neg c97] at H
                        exact absurd H (by simp)

end Go.Proofs.YtikgnlgmidbclaaDoor.PFnModulePath
