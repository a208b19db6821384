/- The walk of spec.Text: it answers what its Lean function answers. Condition: that function answers. (Began as a text of print.sh.) -/
import Derived.Test.YtikgnlgmidbclaaDoorO0
import Derived.Test.YtikgnlgmidbclaaDoorO8
import Derived.Test.YtikgnlgmidbclaaDoorO9
import Derived.Test.YtikgnlgmidbclaaDoorO11
namespace Go.Proofs.YtikgnlgmidbclaaDoor.PFnModulePath
open Go.RowKit Go.Proofs.YtikgnlgmidbclaaDoorW.PrintWords Go.Proofs.YtikgnlgmidbclaaDoorW.PrintLast Go.Proofs.YtikgnlgmidbclaaDoorW.PrintMore
attribute [local go_sem] max2_int min2_int max_two min_two max_three min_three max_four min_four   -- for this text's walks alone
set_option linter.unusedVariables false
set_option linter.unusedSimpArgs false

theorem own_e256 (x : Int) : x % 256 % 2 = x % 2 := by omega
theorem own_sz12_0 : (⟨#[]⟩ : ByteArray).size = 0 := rfl
theorem own_sz12_1 : (⟨#[9]⟩ : ByteArray).size = 1 := rfl
theorem own_sz12_2 : (⟨#[32]⟩ : ByteArray).size = 1 := rfl
theorem own_sz12_3 : (⟨#[10]⟩ : ByteArray).size = 1 := rfl
theorem own_sz12_4 : (⟨#[41, 10]⟩ : ByteArray).size = 2 := rfl
theorem own_sz12_5 : (⟨#[32, 40, 10]⟩ : ByteArray).size = 3 := rfl
/-! ### spec_Text: function 8 -/
mutual
def spec_Text.l0 : Nat → List (S29) → ByteArray → Int → Option (ByteArray)
  | 0, _, _, _ => none
  | k + 1, x0, x3, x4 => if x4 < (x0.length : Int) then ((spec_run.f k x0 x4).bind fun t344 => (if x4 > 0 then (if x3.size + 1 ≤ 9223372036854775807 then (spec_Text.j1 k x0 (x3 ++ (⟨#[10]⟩ : ByteArray)) x4 t344) else (none)) else (spec_Text.j1 k x0 x3 x4 t344))) else (some x3)
def spec_Text.j1 : Nat → List (S29) → ByteArray → Int → Int → Option (ByteArray)
  | 0, _, _, _, _ => none
  | k + 1, x0, x3, x4, x5 => if x5 = 1 then (spec_Text.j2 k x0 x3 x4 x5 true) else (if 0 ≤ x4 then (if x4 < (x0.length : Int) then ((spec_blocked.f ((rd_T29 x0 x4).f0)).bind fun t346 => (spec_Text.j2 k x0 x3 x4 x5 (!t346))) else (none)) else (none))
def spec_Text.j2 : Nat → List (S29) → ByteArray → Int → Int → Bool → Option (ByteArray)
  | 0, _, _, _, _, _ => none
  | k + 1, x0, x3, x4, x5, x29 => if x29 = true then (if 0 ≤ x4 then (if x4 < (x0.length : Int) then ((spec_Name.f ((rd_T29 x0 x4).f0)).bind fun t348 => (if t348.size + 1 ≤ 9223372036854775807 then ((spec_Line.f k ((rd_T29 x0 x4).f0) ((rd_T29 x0 x4).f1) ((rd_T29 x0 x4).f2)).bind fun t350 => (if (t348 ++ (⟨#[32]⟩ : ByteArray)).size + t350.size ≤ 9223372036854775807 then (if ((t348 ++ (⟨#[32]⟩ : ByteArray)) ++ t350).size + 1 ≤ 9223372036854775807 then (if x3.size + (((t348 ++ (⟨#[32]⟩ : ByteArray)) ++ t350) ++ (⟨#[10]⟩ : ByteArray)).size ≤ 9223372036854775807 then (spec_Text.l0 k x0 (x3 ++ (((t348 ++ (⟨#[32]⟩ : ByteArray)) ++ t350) ++ (⟨#[10]⟩ : ByteArray))) (wrap64 (x4 + 1))) else (none)) else (none)) else (none))) else (none))) else (none)) else (none)) else (if 0 ≤ x4 then (if x4 < (x0.length : Int) then ((spec_Name.f ((rd_T29 x0 x4).f0)).bind fun t352 => (if t352.size + 3 ≤ 9223372036854775807 then (if x3.size + (t352 ++ (⟨#[32, 40, 10]⟩ : ByteArray)).size ≤ 9223372036854775807 then (if x4 ≤ (wrap64 (x4 + x5)) then (if (wrap64 (x4 + x5)) ≤ (x0.length : Int) then ((some ((x0.take ((wrap64 (x4 + x5)) : Int).toNat).drop (x4 : Int).toNat : List (S29))).bind fun y353 => (spec_Text.l1 k x0 (x3 ++ (t352 ++ (⟨#[32, 40, 10]⟩ : ByteArray))) x4 x5 y353 (y353.length : Int) 0)) else (none)) else (none)) else (none)) else (none))) else (none)) else (none))
def spec_Text.l1 : Nat → List (S29) → ByteArray → Int → Int → List (S29) → Int → Int → Option (ByteArray)
  | 0, _, _, _, _, _, _, _ => none
  | k + 1, x0, x3, x4, x5, x62, x63, x64 => if x64 < x63 then (if 0 ≤ x64 then (if x64 < (x62.length : Int) then ((spec_Line.f k ((rd_T29 x62 x64).f0) ((rd_T29 x62 x64).f1) ((rd_T29 x62 x64).f2)).bind fun t359 => (if 1 + t359.size ≤ 9223372036854775807 then (if ((⟨#[9]⟩ : ByteArray) ++ t359).size + 1 ≤ 9223372036854775807 then (if x3.size + (((⟨#[9]⟩ : ByteArray) ++ t359) ++ (⟨#[10]⟩ : ByteArray)).size ≤ 9223372036854775807 then (spec_Text.l1 k x0 (x3 ++ (((⟨#[9]⟩ : ByteArray) ++ t359) ++ (⟨#[10]⟩ : ByteArray))) x4 x5 x62 x63 (wrap64 (x64 + 1))) else (none)) else (none)) else (none))) else (none)) else (none)) else (if x3.size + 2 ≤ 9223372036854775807 then (spec_Text.l0 k x0 (x3 ++ (⟨#[41, 10]⟩ : ByteArray)) (wrap64 (x4 + x5))) else (none))
end
def spec_Text.f (k : Nat) (l0 : List (S29)) : Option (ByteArray) := spec_Text.l0 k l0 (⟨#[]⟩ : ByteArray) 0
theorem spec_Text.mono_l : ∀ k, (∀ y0 y1 y2, LeO (spec_Text.l0 k y0 y1 y2) (spec_Text.l0 (k + 1) y0 y1 y2)) ∧ (∀ y0 y1 y2 y3, LeO (spec_Text.j1 k y0 y1 y2 y3) (spec_Text.j1 (k + 1) y0 y1 y2 y3)) ∧ (∀ y0 y1 y2 y3 y4, LeO (spec_Text.j2 k y0 y1 y2 y3 y4) (spec_Text.j2 (k + 1) y0 y1 y2 y3 y4)) ∧ (∀ y0 y1 y2 y3 y4 y5 y6, LeO (spec_Text.l1 k y0 y1 y2 y3 y4 y5 y6) (spec_Text.l1 (k + 1) y0 y1 y2 y3 y4 y5 y6))
  | 0 => ⟨fun _ _ _ r h => by simp [spec_Text.l0] at h, fun _ _ _ _ r h => by simp [spec_Text.j1] at h, fun _ _ _ _ _ r h => by simp [spec_Text.j2] at h, fun _ _ _ _ _ _ _ r h => by simp [spec_Text.l1] at h⟩
  | k + 1 => by
    obtain ⟨ih0, ih1, ih2, ih3⟩ := spec_Text.mono_l k
    refine ⟨?_, ?_, ?_, ?_⟩
    · intro y0 y1 y2
      unfold spec_Text.l0
      repeat' first
      | (with_reducible exact ih0 _ _ _)
      | (with_reducible exact ih1 _ _ _ _)
      | (with_reducible exact ih2 _ _ _ _ _)
      | (with_reducible exact ih3 _ _ _ _ _ _ _)
      | (with_reducible exact spec_Line.mono _ _ _ _)
      | (with_reducible exact spec_run.mono _ _ _)
      | (with_reducible exact LeO.refl _)
      | (with_reducible exact LeO.none _)
      | (with_reducible refine LeO.ite ?_ ?_)
      | (with_reducible refine LeO.bind ?_ (fun _ => ?_))
      | exact ih0 _ _ _
      | exact ih1 _ _ _ _
      | exact ih2 _ _ _ _ _
      | exact ih3 _ _ _ _ _ _ _
      | exact spec_Line.mono _ _ _ _
      | exact spec_run.mono _ _ _
      | exact LeO.none _
      | refine LeO.ite ?_ ?_
      | refine LeO.bind ?_ (fun _ => ?_)
    · intro y0 y1 y2 y3
      unfold spec_Text.j1
      repeat' first
      | (with_reducible exact ih0 _ _ _)
      | (with_reducible exact ih1 _ _ _ _)
      | (with_reducible exact ih2 _ _ _ _ _)
      | (with_reducible exact ih3 _ _ _ _ _ _ _)
      | (with_reducible exact spec_Line.mono _ _ _ _)
      | (with_reducible exact spec_run.mono _ _ _)
      | (with_reducible exact LeO.refl _)
      | (with_reducible exact LeO.none _)
      | (with_reducible refine LeO.ite ?_ ?_)
      | (with_reducible refine LeO.bind ?_ (fun _ => ?_))
      | exact ih0 _ _ _
      | exact ih1 _ _ _ _
      | exact ih2 _ _ _ _ _
      | exact ih3 _ _ _ _ _ _ _
      | exact spec_Line.mono _ _ _ _
      | exact spec_run.mono _ _ _
      | exact LeO.none _
      | refine LeO.ite ?_ ?_
      | refine LeO.bind ?_ (fun _ => ?_)
    · intro y0 y1 y2 y3 y4
      unfold spec_Text.j2
      repeat' first
      | (with_reducible exact ih0 _ _ _)
      | (with_reducible exact ih1 _ _ _ _)
      | (with_reducible exact ih2 _ _ _ _ _)
      | (with_reducible exact ih3 _ _ _ _ _ _ _)
      | (with_reducible exact spec_Line.mono _ _ _ _)
      | (with_reducible exact spec_run.mono _ _ _)
      | (with_reducible exact LeO.refl _)
      | (with_reducible exact LeO.none _)
      | (with_reducible refine LeO.ite ?_ ?_)
      | (with_reducible refine LeO.bind ?_ (fun _ => ?_))
      | exact ih0 _ _ _
      | exact ih1 _ _ _ _
      | exact ih2 _ _ _ _ _
      | exact ih3 _ _ _ _ _ _ _
      | exact spec_Line.mono _ _ _ _
      | exact spec_run.mono _ _ _
      | exact LeO.none _
      | refine LeO.ite ?_ ?_
      | refine LeO.bind ?_ (fun _ => ?_)
    · intro y0 y1 y2 y3 y4 y5 y6
      unfold spec_Text.l1
      repeat' first
      | (with_reducible exact ih0 _ _ _)
      | (with_reducible exact ih1 _ _ _ _)
      | (with_reducible exact ih2 _ _ _ _ _)
      | (with_reducible exact ih3 _ _ _ _ _ _ _)
      | (with_reducible exact spec_Line.mono _ _ _ _)
      | (with_reducible exact spec_run.mono _ _ _)
      | (with_reducible exact LeO.refl _)
      | (with_reducible exact LeO.none _)
      | (with_reducible refine LeO.ite ?_ ?_)
      | (with_reducible refine LeO.bind ?_ (fun _ => ?_))
      | exact ih0 _ _ _
      | exact ih1 _ _ _ _
      | exact ih2 _ _ _ _ _
      | exact ih3 _ _ _ _ _ _ _
      | exact spec_Line.mono _ _ _ _
      | exact spec_run.mono _ _ _
      | exact LeO.none _
      | refine LeO.ite ?_ ?_
      | refine LeO.bind ?_ (fun _ => ?_)
theorem spec_Text.mono : ∀ a0 k, LeO (spec_Text.f k a0) (spec_Text.f (k + 1) a0) := by
  intro a0 k
  obtain ⟨ih0, ih1, ih2, ih3⟩ := spec_Text.mono_l k
  unfold spec_Text.f
  repeat' first
      | (with_reducible exact ih0 _ _ _)
      | (with_reducible exact ih1 _ _ _ _)
      | (with_reducible exact ih2 _ _ _ _ _)
      | (with_reducible exact ih3 _ _ _ _ _ _ _)
      | (with_reducible exact spec_Line.mono _ _ _ _)
      | (with_reducible exact spec_run.mono _ _ _)
      | (with_reducible exact LeO.refl _)
      | (with_reducible exact LeO.none _)
      | (with_reducible refine LeO.ite ?_ ?_)
      | (with_reducible refine LeO.bind ?_ (fun _ => ?_))
      | exact ih0 _ _ _
      | exact ih1 _ _ _ _
      | exact ih2 _ _ _ _ _
      | exact ih3 _ _ _ _ _ _ _
      | exact spec_Line.mono _ _ _ _
      | exact spec_run.mono _ _ _
      | exact LeO.none _
      | refine LeO.ite ?_ ?_
      | refine LeO.bind ?_ (fun _ => ?_)
def spec_Text.T8 : Bool × List (List Nat × List Nat) := (true, [([], []), ([], []), ([], []), ([1, 2], [1, 2]), ([3], [3]), ([4], [4]), ([5], [5]), ([6], [6]), ([], []), ([], []), ([8, 9], [8, 9]), ([10], [10]), ([11, 6], [11]), ([7, 12], [7, 12]), ([13], [13]), ([0, 14], [0, 14]), ([15, 12, 0, 1, 2, 3, 4, 5, 6, 7, 8, 9, 10, 11, 12, 13, 14, 15], [0, 15])])
def spec_Text.B8 : List Nat := [0, 0, 0, 6, 14, 30, 62, 126, 0, 0, 768, 1792, 3966, 8190, 16382, 32767, 65535]
theorem spec_Text.tab8 : rtab .any (opsOf Tryd.f8 8) = spec_Text.T8 := by kernel_rfl
theorem spec_Text.bits8 : waitsOk spec_Text.T8.2 spec_Text.B8 = true := by kernel_rfl
set_option maxHeartbeats 8000000 in
set_option maxRecDepth 100000 in
theorem spec_Text.calls (k : Nat) (A0 : Option Addr) (c0 : Nat) (l0 : List (S29)) (r : ByteArray) (w : World) (hr0 : Kd.C k29 w A0 l0.length l0) (hc0 : l0.length ≤ c0) (h : spec_Text.f k l0 = some r) :
    Calls Tryd.prog 8 #[.slice A0 l0.length c0] w fun e w' => e = .returned (.string r) ∧ Below w.heap.size w w' := by
  have hu29 := Tryd.underlying29
  have HR0 := Aside0.mk hr0
  have HC0 := Aside0.mk hc0
  clear hr0 hc0
  have HB := Aside0.mk (Below.refl w.heap.size w)
  have H : (spec_Text.l0 k l0 (⟨#[]⟩ : ByteArray) 0) = some r := h
  clear h
  have H' := Aside0.mk H
  clear H
  go_enter Tryd.func8, Tryd.ntmps8
  go_wp2
  go_loopg [3, 4] k (fun kq v3 v4 w' => ∃ (x3_1 : ByteArray) (x4_1 : Int), v3 = .string x3_1 ∧ v4 = .int .i64 x4_1 ∧ Aside0 (spec_Text.l0 kq l0 x3_1 x4_1 = some r) ∧ Aside0 (kq ≤ k) ∧ Aside0 (Below w.heap.size w w'))
  case atStart => exact ⟨((⟨#[]⟩ : ByteArray)), (0), (by first | rfl | (simp; done) | (simp [*]; done)), (by first | rfl | (simp; done) | (simp [*]; done)), H', ⟨Nat.le_refl _⟩, ⟨by repeat (first | (with_reducible first | exact HB.out | apply below_alloc | apply pw_below_drewN | apply below_drew1) | exact HB.out)⟩⟩
  case round =>
    clear H'
    obtain ⟨x3_1, x4_1, rfl, rfl, HA, HK1, HB⟩ := hrel
    cases gk with
    | zero => exact absurd HA.out (by simp [spec_Text.l0])
    | succ k1 =>
      have H := HA.out
      clear HA
      simp only [spec_Text.l0] at H
      by_cases c2 : x4_1 < (l0.length : Int)
      · rw [if_pos c2] at H
        have c2b0 : decide (x4_1 < (l0.length : Int)) = true := decide_eq_true c2
        clear c2
        replace H := Option.bind_eq_some_iff.mp H
        obtain ⟨t344, A30, H⟩ := H
        replace H : (if x4_1 > 0 then (if x3_1.size + 1 ≤ 9223372036854775807 then (spec_Text.j1 k1 l0 (x3_1 ++ (⟨#[10]⟩ : ByteArray)) x4_1 t344) else (none)) else (spec_Text.j1 k1 l0 x3_1 x4_1 t344)) = some r := H
        have A3 := Aside0.mk A30
        clear A30
        have HC4 := Aside0.mk H
        clear H
        go_upto_if 16 with (first | ((with_reducible refine gate_callee (f := 18) rfl ?_); refine goesL_ (some 14) rfl rfl Tryd.func18 (by kernel_rfl) rfl #[.slice A0 l0.length c0, .int .i64 x4_1] rfl (by (try simp only [List.map_toArray, List.map_cons, List.map_nil]); first | done | rfl | (simp only [List.length_drop, List.length_take]; rfl)) ?_; (with_reducible refine (spec_run.calls k1 _ _ l0 x4_1 t344 _ ?side1 ?side2 A3.out).mono ?_); (case side1 => repeat (first | exact (Kd.C_below HR0.out HB.out) | (with_reducible refine Kd.C_alloc ?_ _) | (with_reducible refine Kd.C_drewN ?_ _) | (with_reducible refine Kd.C_drew ?_))); (case side2 => exact HC0.out); rintro e w' ⟨rfl, ⟨nd, rfl⟩⟩; refine ⟨_, rfl, ?_⟩))
        (try simp only [Act.put, List.setIfInBounds_toArray, List.set_cons_zero, List.set_cons_succ])
        go_cut [3] (fun v3 wc => ∃ (kq : Nat) (x3_3 : ByteArray), v3 = .string x3_3 ∧ Aside0 (spec_Text.j1 kq l0 x3_3 x4_1 t344 = some r) ∧ Aside0 (kq ≤ k1) ∧ Aside0 (Below w.heap.size w wc))
        case first =>
          have H := HC4.out
          clear HC4
          by_cases c5 : x4_1 > 0
          · rw [if_pos c5] at H
            have c5b0 : decide (0 < x4_1) = true := decide_eq_true c5
            clear c5
            (first | rw [c5b0] | (simp only [i64_w, i32_w]; rw [c5b0]) | skip)
            by_cases c6 : x3_1.size + 1 ≤ 9223372036854775807
            · rw [if_pos c6] at H
              have c6b0 := eq_true c6
              have c6b1 : decide (x3_1.size + 1 ≤ 9223372036854775807) = true := decide_eq_true c6
              try have c6b2 : (9223372036854775807 < x3_1.size + 1) = False := eq_false (Nat.not_lt.2 c6)
              try have c6b3 := c6b2
              try simp only [ByteArray.size_append, own_sz12_0, own_sz12_1, own_sz12_2, own_sz12_3, own_sz12_4, own_sz12_5] at c6b3
              have H' := Aside0.mk H
              clear H
              go_wp2
              go_meet
              case rel => exact ⟨_, (x3_1 ++ (⟨#[10]⟩ : ByteArray)), (by first | rfl | (simp; done) | (simp [*]; done)), H', ⟨by have := HK1.out; first | omega | exact Nat.le_refl _⟩, ⟨by repeat (first | (with_reducible first | exact HB.out | apply below_alloc | apply pw_below_drewN | apply below_drew1) | exact HB.out)⟩⟩
            · rw [if_neg c6] at H
              exact absurd H (by simp)
          · rw [if_neg c5] at H
            have c5b0 : decide (0 < x4_1) = false := decide_eq_false c5
            clear c5
            (first | rw [c5b0] | (simp only [i64_w, i32_w]; rw [c5b0]) | skip)
            have H' := Aside0.mk H
            clear H
            go_wp2
            go_meet
            case rel => exact ⟨_, (x3_1), (by first | rfl | (simp; done) | (simp [*]; done)), H', ⟨by have := HK1.out; first | omega | exact Nat.le_refl _⟩, ⟨by repeat (first | (with_reducible first | exact HB.out | apply below_alloc | apply pw_below_drewN | apply below_drew1) | exact HB.out)⟩⟩
        case rest =>
          clear HC4
          try clear c1
          try clear c2
          try clear c2b0
          try clear p2
          try clear c5
          try clear c5b0
          try clear c6
          try clear c6b0
          try clear c6b1
          try clear c6b2
          obtain ⟨kq, x3_3, rfl, HA, HJ3, HB⟩ := hcut
          cases kq with
          | zero => exact absurd HA.out (by simp [spec_Text.j1])
          | succ kj3 =>
            have H := HA.out
            clear HA
            simp only [spec_Text.j1] at H
            have HC7 := Aside0.mk H
            clear H
            go_upto_region 7 with (fail)
            go_cut [29] (fun v29 wc => ∃ (kq : Nat) (x29_6 : Bool), v29 = .bool x29_6 ∧ Aside0 (spec_Text.j2 kq l0 x3_3 x4_1 t344 x29_6 = some r) ∧ Aside0 (kq ≤ kj3) ∧ Aside0 (Below w.heap.size w wc))
            case first =>
              have H := HC7.out
              clear HC7
              by_cases c8 : t344 = 1
              · rw [if_pos c8] at H
                have c8b0 : (t344 == 1) = true := beq_iff_eq.mpr c8
                have c8b1 : (t344 != 1) = false := bne_eq_false_iff_eq.mpr c8
                clear c8
                (first | rw [c8b0] | (simp only [i64_w, i32_w]; rw [c8b0]) | skip)
                have H' := Aside0.mk H
                clear H
                go_wp2
                go_meet
                case rel => exact ⟨_, (true), (by first | rfl | (simp; done) | (simp [*]; done)), H', ⟨by have := HK1.out; have := HJ3.out; first | omega | exact Nat.le_refl _⟩, ⟨by repeat (first | (with_reducible first | exact HB.out | apply below_alloc | apply pw_below_drewN | apply below_drew1) | exact HB.out)⟩⟩
              · rw [if_neg c8] at H
                have c8b0 : (t344 == 1) = false := beq_eq_false_iff_ne.mpr c8
                have c8b1 : (t344 != 1) = true := bne_iff_ne.mpr c8
                (first | rw [c8b0] | (simp only [i64_w, i32_w]; rw [c8b0]) | skip)
                by_cases c9 : 0 ≤ x4_1
                · rw [if_pos c9] at H
                  have c9b0 : decide (0 ≤ x4_1) = true := decide_eq_true c9
                  clear c9
                  by_cases c10 : x4_1 < (l0.length : Int)
                  · rw [if_pos c10] at H
                    have c10b0 : decide (x4_1 < (l0.length : Int)) = true := decide_eq_true c10
                    clear c10
                    replace H := Option.bind_eq_some_iff.mp H
                    obtain ⟨t346, A110, H⟩ := H
                    replace H : (spec_Text.j2 kj3 l0 x3_3 x4_1 t344 (!t346)) = some r := H
                    have A11 := Aside0.mk A110
                    clear A110
                    have H' := Aside0.mk H
                    clear H
                    have p345 : 0 ≤ (x4_1 : Int) := of_decide_eq_true (by first | (with_reducible assumption) | assumption)
                    have q345 : x4_1 < (l0.length : Int) := of_decide_eq_true (by first | (with_reducible assumption) | assumption)
                    obtain ⟨ad345, A345_1, c345_1, e345, hx345_0, hx345_1, hx345_2, hl345_1, hi345_1⟩ := at_T29 HR0.out x4_1 p345 q345
                    cases e345
                    replace hx345_0 := (HB.out.cell (World.block_lt_of_cell? w _ hx345_0)).trans hx345_0
                    replace hx345_1 := (HB.out.cell (World.block_lt_of_cell? w _ hx345_1)).trans hx345_1
                    replace hx345_2 := (HB.out.cell (World.block_lt_of_cell? w _ hx345_2)).trans hx345_2
                    have HR345_1 := Aside0.mk hi345_1
                    have HC345_1 := Aside0.mk hl345_1
                    clear hi345_1 hl345_1
                    replace p345 := eq_true p345
                    replace q345 := eq_true q345
                    go_wp2_with (first | (go_at_call 16; (with_reducible refine (spec_blocked.calls ((rd_T29 l0 x4_1).f0) t346 _ A11.out).mono ?_); rintro e w' ⟨rfl, ⟨nd, rfl⟩⟩))
                    go_meet
                    case rel => exact ⟨_, (!t346), (by first | rfl | (simp; done) | (simp [*]; done)), H', ⟨by have := HK1.out; have := HJ3.out; first | omega | exact Nat.le_refl _⟩, ⟨by repeat (first | (with_reducible first | exact HB.out | apply below_alloc | apply pw_below_drewN | apply below_drew1) | exact HB.out)⟩⟩
                  · rw [if_neg c10] at H
                    exact absurd H (by simp)
                · rw [if_neg c9] at H
                  exact absurd H (by simp)
            case rest =>
              clear HC7
              try clear c1
              try clear c2
              try clear c2b0
              try clear p2
              try clear c3
              try clear p3
              try clear q3
              try clear hx3
              try clear c5
              try clear c5b0
              try clear c6
              try clear c6b0
              try clear c6b1
              try clear c6b2
              try clear c8
              try clear c8b0
              try clear c8b1
              try clear c9
              try clear c9b0
              try clear c10
              try clear c10b0
              try clear hx345_0
              try clear hx345_1
              try clear hx345_2
              try clear p2
              try clear p345
              try clear q345
              obtain ⟨kq, x29_6, rfl, HA, HJ6, HB⟩ := hcut
              cases kq with
              | zero => exact absurd HA.out (by simp [spec_Text.j2])
              | succ kj6 =>
                have H := HA.out
                clear HA
                simp only [spec_Text.j2] at H
                by_cases c12 : x29_6 = true
                · subst c12
                  have H1 : (if 0 ≤ x4_1 then (if x4_1 < (l0.length : Int) then ((spec_Name.f ((rd_T29 l0 x4_1).f0)).bind fun t348 => (if t348.size + 1 ≤ 9223372036854775807 then ((spec_Line.f kj6 ((rd_T29 l0 x4_1).f0) ((rd_T29 l0 x4_1).f1) ((rd_T29 l0 x4_1).f2)).bind fun t350 => (if (t348 ++ (⟨#[32]⟩ : ByteArray)).size + t350.size ≤ 9223372036854775807 then (if ((t348 ++ (⟨#[32]⟩ : ByteArray)) ++ t350).size + 1 ≤ 9223372036854775807 then (if x3_3.size + (((t348 ++ (⟨#[32]⟩ : ByteArray)) ++ t350) ++ (⟨#[10]⟩ : ByteArray)).size ≤ 9223372036854775807 then (spec_Text.l0 kj6 l0 (x3_3 ++ (((t348 ++ (⟨#[32]⟩ : ByteArray)) ++ t350) ++ (⟨#[10]⟩ : ByteArray))) (wrap64 (x4_1 + 1))) else (none)) else (none)) else (none))) else (none))) else (none)) else (none)) = some r := by rw [if_pos rfl] at H; exact H
                  clear H
                  have H := H1
                  clear H1
                  by_cases c13 : 0 ≤ x4_1
                  · rw [if_pos c13] at H
                    have c13b0 : decide (0 ≤ x4_1) = true := decide_eq_true c13
                    clear c13
                    by_cases c14 : x4_1 < (l0.length : Int)
                    · rw [if_pos c14] at H
                      have c14b0 : decide (x4_1 < (l0.length : Int)) = true := decide_eq_true c14
                      clear c14
                      replace H := Option.bind_eq_some_iff.mp H
                      obtain ⟨t348, A150, H⟩ := H
                      replace H : (if t348.size + 1 ≤ 9223372036854775807 then ((spec_Line.f kj6 ((rd_T29 l0 x4_1).f0) ((rd_T29 l0 x4_1).f1) ((rd_T29 l0 x4_1).f2)).bind fun t350 => (if (t348 ++ (⟨#[32]⟩ : ByteArray)).size + t350.size ≤ 9223372036854775807 then (if ((t348 ++ (⟨#[32]⟩ : ByteArray)) ++ t350).size + 1 ≤ 9223372036854775807 then (if x3_3.size + (((t348 ++ (⟨#[32]⟩ : ByteArray)) ++ t350) ++ (⟨#[10]⟩ : ByteArray)).size ≤ 9223372036854775807 then (spec_Text.l0 kj6 l0 (x3_3 ++ (((t348 ++ (⟨#[32]⟩ : ByteArray)) ++ t350) ++ (⟨#[10]⟩ : ByteArray))) (wrap64 (x4_1 + 1))) else (none)) else (none)) else (none))) else (none)) = some r := H
                      have A15 := Aside0.mk A150
                      clear A150
                      by_cases c16 : t348.size + 1 ≤ 9223372036854775807
                      · rw [if_pos c16] at H
                        have c16b0 := eq_true c16
                        have c16b1 : decide (t348.size + 1 ≤ 9223372036854775807) = true := decide_eq_true c16
                        try have c16b2 : (9223372036854775807 < t348.size + 1) = False := eq_false (Nat.not_lt.2 c16)
                        try have c16b3 := c16b2
                        try simp only [ByteArray.size_append, own_sz12_0, own_sz12_1, own_sz12_2, own_sz12_3, own_sz12_4, own_sz12_5] at c16b3
                        replace H := Option.bind_eq_some_iff.mp H
                        obtain ⟨t350, A170, H⟩ := H
                        replace H : (if (t348 ++ (⟨#[32]⟩ : ByteArray)).size + t350.size ≤ 9223372036854775807 then (if ((t348 ++ (⟨#[32]⟩ : ByteArray)) ++ t350).size + 1 ≤ 9223372036854775807 then (if x3_3.size + (((t348 ++ (⟨#[32]⟩ : ByteArray)) ++ t350) ++ (⟨#[10]⟩ : ByteArray)).size ≤ 9223372036854775807 then (spec_Text.l0 kj6 l0 (x3_3 ++ (((t348 ++ (⟨#[32]⟩ : ByteArray)) ++ t350) ++ (⟨#[10]⟩ : ByteArray))) (wrap64 (x4_1 + 1))) else (none)) else (none)) else (none)) = some r := H
                        have A17 := Aside0.mk A170
                        clear A170
                        by_cases c18 : (t348 ++ (⟨#[32]⟩ : ByteArray)).size + t350.size ≤ 9223372036854775807
                        · rw [if_pos c18] at H
                          have c18b0 := eq_true c18
                          have c18b1 : decide ((t348 ++ (⟨#[32]⟩ : ByteArray)).size + t350.size ≤ 9223372036854775807) = true := decide_eq_true c18
                          try have c18b2 : (9223372036854775807 < (t348 ++ (⟨#[32]⟩ : ByteArray)).size + t350.size) = False := eq_false (Nat.not_lt.2 c18)
                          try have c18b3 := c18b2
                          try simp only [ByteArray.size_append, own_sz12_0, own_sz12_1, own_sz12_2, own_sz12_3, own_sz12_4, own_sz12_5] at c18b3
                          by_cases c19 : ((t348 ++ (⟨#[32]⟩ : ByteArray)) ++ t350).size + 1 ≤ 9223372036854775807
                          · rw [if_pos c19] at H
                            have c19b0 := eq_true c19
                            have c19b1 : decide (((t348 ++ (⟨#[32]⟩ : ByteArray)) ++ t350).size + 1 ≤ 9223372036854775807) = true := decide_eq_true c19
                            try have c19b2 : (9223372036854775807 < ((t348 ++ (⟨#[32]⟩ : ByteArray)) ++ t350).size + 1) = False := eq_false (Nat.not_lt.2 c19)
                            try have c19b3 := c19b2
                            try simp only [ByteArray.size_append, own_sz12_0, own_sz12_1, own_sz12_2, own_sz12_3, own_sz12_4, own_sz12_5] at c19b3
                            by_cases c20 : x3_3.size + (((t348 ++ (⟨#[32]⟩ : ByteArray)) ++ t350) ++ (⟨#[10]⟩ : ByteArray)).size ≤ 9223372036854775807
                            · rw [if_pos c20] at H
                              have c20b0 := eq_true c20
                              have c20b1 : decide (x3_3.size + (((t348 ++ (⟨#[32]⟩ : ByteArray)) ++ t350) ++ (⟨#[10]⟩ : ByteArray)).size ≤ 9223372036854775807) = true := decide_eq_true c20
                              try have c20b2 : (9223372036854775807 < x3_3.size + (((t348 ++ (⟨#[32]⟩ : ByteArray)) ++ t350) ++ (⟨#[10]⟩ : ByteArray)).size) = False := eq_false (Nat.not_lt.2 c20)
                              try have c20b3 := c20b2
                              try simp only [ByteArray.size_append, own_sz12_0, own_sz12_1, own_sz12_2, own_sz12_3, own_sz12_4, own_sz12_5] at c20b3
                              have H' := Aside0.mk H
                              clear H
                              try go_wp2
                              have n0_ := Aside0.mk (below_drew1 HB.out)
                              clear HB
                              have HB := n0_
                              clear n0_
                              have p347 : 0 ≤ (x4_1 : Int) := of_decide_eq_true (by first | (with_reducible assumption) | assumption)
                              have q347 : x4_1 < (l0.length : Int) := of_decide_eq_true (by first | (with_reducible assumption) | assumption)
                              obtain ⟨ad347, A347_1, c347_1, e347, hx347_0, hx347_1, hx347_2, hl347_1, hi347_1⟩ := at_T29 HR0.out x4_1 p347 q347
                              have hw347_2 := hx347_2
                              have hw347_1 := hx347_1
                              have hw347_0 := hx347_0
                              cases e347
                              replace hx347_0 := (HB.out.cell (World.block_lt_of_cell? w _ hx347_0)).trans hx347_0
                              replace hx347_1 := (HB.out.cell (World.block_lt_of_cell? w _ hx347_1)).trans hx347_1
                              replace hx347_2 := (HB.out.cell (World.block_lt_of_cell? w _ hx347_2)).trans hx347_2
                              have HR347_1 := Aside0.mk hi347_1
                              have HC347_1 := Aside0.mk hl347_1
                              clear hi347_1 hl347_1
                              replace p347 := eq_true p347
                              replace q347 := eq_true q347
                              have p349 : 0 ≤ (x4_1 : Int) := of_decide_eq_true (by first | (with_reducible assumption) | assumption)
                              have q349 : x4_1 < (l0.length : Int) := of_decide_eq_true (by first | (with_reducible assumption) | assumption)
                              obtain ⟨ad349, A349_1, c349_1, e349, hx349_0, hx349_1, hx349_2, hl349_1, hi349_1⟩ := at_T29 HR0.out x4_1 p349 q349
                              have hw349_2 := hx349_2
                              have hw349_1 := hx349_1
                              have hw349_0 := hx349_0
                              obtain rfl : ad347 = ad349 := (by injection e349)
                              replace hx349_0 := (HB.out.cell (World.block_lt_of_cell? w _ hx349_0)).trans hx349_0
                              replace hx349_1 := (HB.out.cell (World.block_lt_of_cell? w _ hx349_1)).trans hx349_1
                              replace hx349_2 := (HB.out.cell (World.block_lt_of_cell? w _ hx349_2)).trans hx349_2
                              have HR349_1 := Aside0.mk hi349_1
                              have HC349_1 := Aside0.mk hl349_1
                              clear hi349_1 hl349_1
                              replace p349 := eq_true p349
                              replace q349 := eq_true q349
                              have ea_ := Option.some.inj (hx347_1.symm.trans hx349_1)
                              injection ea_ with ea_ en_ ec_
                              subst ea_
                              subst ec_
                              clear en_
                              refine start_ (n := 17) (S := fun w' => w'.cell? (ad347.add ((x4_1).toNat * 3)) = some (.int .i64 ((rd_T29 l0 x4_1).f0)) ∧ w'.cell? ⟨(ad347.add ((x4_1).toNat * 3)).block, (ad347.add ((x4_1).toNat * 3)).off + 1, none⟩ = some (.slice A347_1 ((rd_T29 l0 x4_1).f1).length c347_1) ∧ w'.cell? ⟨(ad347.add ((x4_1).toNat * 3)).block, (ad347.add ((x4_1).toNat * 3)).off + 2, none⟩ = some (.bool ((rd_T29 l0 x4_1).f2)) ∧ w'.cell? (ad347.add ((x4_1).toNat * 3)) = some (.int .i64 ((rd_T29 l0 x4_1).f0)) ∧ w'.cell? ⟨(ad347.add ((x4_1).toNat * 3)).block, (ad347.add ((x4_1).toNat * 3)).off + 1, none⟩ = some (.slice A347_1 ((rd_T29 l0 x4_1).f1).length c347_1) ∧ w'.cell? ⟨(ad347.add ((x4_1).toNat * 3)).block, (ad347.add ((x4_1).toNat * 3)).off + 2, none⟩ = some (.bool ((rd_T29 l0 x4_1).f2))) (ds := []) #[false, false, false, false, false, false, false, false, false, false, false, false, false, false, false, false, false] (by kernel_rfl) rfl rfl ⟨((HB.out.cell (World.block_lt_of_cell? w _ hw347_0)).trans hw347_0), ((HB.out.cell (World.block_lt_of_cell? w _ hw347_1)).trans hw347_1), ((HB.out.cell (World.block_lt_of_cell? w _ hw347_2)).trans hw347_2), ((HB.out.cell (World.block_lt_of_cell? w _ hw349_0)).trans hw349_0), ((HB.out.cell (World.block_lt_of_cell? w _ hw349_1)).trans hw349_1), ((HB.out.cell (World.block_lt_of_cell? w _ hw349_2)).trans hw349_2)⟩ (fun hHeld => ?_); refine with_tabW spec_Text.tab8 spec_Text.bits8 (fun HT_ HW_ => ?_)
                              generalize wc.drew = w21 at HB HR347_1 HR349_1 hx347_0 hx347_1 hx347_2 hx349_0 hx349_1 hx349_2 hHeld ⊢
                              refine pure_ (i := 0) (N := some 30) (v := ?_) (a' := ?_) #[true, false, false, false, false, false, false, false, false, false, false, false, false, false, false, false, false] rfl rfl (any_of HT_.out (by kernel_rfl)) (fun _ _ _ h => h) (Or.inl ⟨by rfl, ?_⟩) ?_ ?_
                              rotate_left
                              · intro w'
                                go_simp
                                with_reducible rfl
                              rotate_left
                              · simp only [Act.put, List.setIfInBounds_toArray, List.set_cons_zero, List.set_cons_succ, i64_w, i32_w]
                                rfl
                              refine pure_ (i := 1) (N := some 31) (v := ?_) (a' := ?_) #[true, true, false, false, false, false, false, false, false, false, false, false, false, false, false, false, false] rfl rfl (any_of HT_.out (by kernel_rfl)) (fun _ _ _ h => h) (Or.inl ⟨by rfl, ?_⟩) ?_ ?_
                              rotate_left
                              · intro w'
                                go_simp
                                with_reducible rfl
                              rotate_left
                              · simp only [Act.put, List.setIfInBounds_toArray, List.set_cons_zero, List.set_cons_succ, i64_w, i32_w]
                                rfl
                              refine pure_ (i := 2) (N := some 32) (v := ?_) (a' := ?_) #[true, true, true, false, false, false, false, false, false, false, false, false, false, false, false, false, false] rfl rfl (any_of HT_.out (by kernel_rfl)) (fun _ _ _ h => h) (Or.inl ⟨by rfl, ?_⟩) ?_ ?_
                              rotate_left
                              · intro w'
                                go_simp
                                with_reducible rfl
                              rotate_left
                              · simp only [Act.put, List.setIfInBounds_toArray, List.set_cons_zero, List.set_cons_succ, i64_w, i32_w]
                                rfl
                              refine pure_ (i := 3) (N := some 33) (v := ?_) (a' := ?_) #[true, true, true, true, false, false, false, false, false, false, false, false, false, false, false, false, false] rfl rfl (any_of HT_.out (by kernel_rfl)) (fun _ _ _ h => h) (Or.inl ⟨by rfl, ?_⟩) ?_ ?_
                              rotate_left
                              · intro w'
                                go_simp
                                with_reducible rfl
                              rotate_left
                              · simp only [Act.put, List.setIfInBounds_toArray, List.set_cons_zero, List.set_cons_succ, i64_w, i32_w]
                                rfl
                              refine pure_ (i := 4) (N := some 34) (v := ?_) (a' := ?_) #[true, true, true, true, true, false, false, false, false, false, false, false, false, false, false, false, false] rfl rfl (any_of HT_.out (by kernel_rfl)) (fun _ _ _ h => h) (Or.inl ⟨by rfl, ?_⟩) ?_ ?_
                              rotate_left
                              · intro w'
                                go_simp
                                with_reducible rfl
                              rotate_left
                              · simp only [Act.put, List.setIfInBounds_toArray, List.set_cons_zero, List.set_cons_succ, i64_w, i32_w]
                                rfl
                              refine pure_ (i := 8) (N := some 38) (v := ?_) (a' := ?_) #[true, true, true, true, true, false, false, false, true, false, false, false, false, false, false, false, false] rfl rfl (any_of HT_.out (by kernel_rfl)) (fun _ _ _ h => h) (Or.inl ⟨by rfl, ?_⟩) ?_ ?_
                              rotate_left
                              · intro w'
                                go_simp
                                with_reducible rfl
                              rotate_left
                              · simp only [Act.put, List.setIfInBounds_toArray, List.set_cons_zero, List.set_cons_succ, i64_w, i32_w]
                                rfl
                              refine pure_ (i := 9) (N := some 39) (v := ?_) (a' := ?_) #[true, true, true, true, true, false, false, false, true, true, false, false, false, false, false, false, false] rfl rfl (any_of HT_.out (by kernel_rfl)) (fun _ _ _ h => h) (Or.inl ⟨by rfl, ?_⟩) ?_ ?_
                              rotate_left
                              · intro w'
                                go_simp
                                with_reducible rfl
                              rotate_left
                              · simp only [Act.put, List.setIfInBounds_toArray, List.set_cons_zero, List.set_cons_succ, i64_w, i32_w]
                                rfl
                              refine pure_ (i := 10) (N := some 40) (v := ?_) (a' := ?_) #[true, true, true, true, true, false, false, false, true, true, true, false, false, false, false, false, false] rfl rfl (any_of HT_.out (by kernel_rfl)) (fun _ _ _ h => h) (Or.inl ⟨by rfl, ?_⟩) ?_ ?_
                              rotate_left
                              · intro w'
                                go_simp
                                with_reducible rfl
                              rotate_left
                              · simp only [Act.put, List.setIfInBounds_toArray, List.set_cons_zero, List.set_cons_succ, i64_w, i32_w]
                                rfl
                              refine take_ (i := 5) (N := some 35) (v := ?_) (a' := ?_) #[true, true, true, true, true, true, false, false, true, true, true, false, false, false, false, false, false] rfl rfl (take_ofW HT_.out HW_.out (by kernel_rfl)) (fun _ _ _ h => h) (Or.inl ⟨by rfl, ?_⟩) hHeld ?_ ?_
                              rotate_left
                              · rintro w' ⟨s0, s1, s2, s3, s4, s5⟩
                                go_simp
                                with_reducible rfl
                              rotate_left
                              · simp only [Act.put, List.setIfInBounds_toArray, List.set_cons_zero, List.set_cons_succ, i64_w, i32_w]
                                rfl
                              refine take_ (i := 11) (N := some 41) (v := ?_) (a' := ?_) #[true, true, true, true, true, true, false, false, true, true, true, true, false, false, false, false, false] rfl rfl (take_ofW HT_.out HW_.out (by kernel_rfl)) (fun _ _ _ h => h) (Or.inl ⟨by rfl, ?_⟩) hHeld ?_ ?_
                              rotate_left
                              · rintro w' ⟨s0, s1, s2, s3, s4, s5⟩
                                go_simp
                                with_reducible rfl
                              rotate_left
                              · simp only [Act.put, List.setIfInBounds_toArray, List.set_cons_zero, List.set_cons_succ, i64_w, i32_w]
                                rfl
                              refine one_ (i := 6) (N := some 36) #[true, true, true, true, true, true, true, false, true, true, true, true, false, false, false, false, false] rfl rfl (one_of HT_.out (by kernel_rfl)) (by decide) (fun K hK => ?_)
                              refine goes_ Tryd.func17 (by kernel_rfl) rfl #[.int .i64 ((rd_T29 l0 x4_1).f0)] (by rfl) rfl rfl (by (try simp only [List.map_toArray, List.map_cons, List.map_nil]); first | done | rfl | (simp only [List.length_drop, List.length_take]; rfl)) ?_
                              with_reducible refine (spec_Name.calls ((rd_T29 l0 x4_1).f0) t348 _ A15.out).mono ?_
                              rintro e w22 ⟨rfl, hb⟩
                              refine ⟨_, rfl, ?_⟩
                              have n0_ := Aside0.mk (below_step (by repeat (first | (with_reducible first | exact HB.out | apply below_alloc | apply pw_below_drewN | apply below_drew1) | exact HB.out)) hb)
                              clear HB
                              have HB := n0_
                              clear n0_
                              (try clear hb)
                              (try clear hb2)
                              (try clear hk)
                              (try clear hi)
                              refine hK.out _ _ ⟨((HB.out.cell (World.block_lt_of_cell? w _ hw347_0)).trans hw347_0), ((HB.out.cell (World.block_lt_of_cell? w _ hw347_1)).trans hw347_1), ((HB.out.cell (World.block_lt_of_cell? w _ hw347_2)).trans hw347_2), ((HB.out.cell (World.block_lt_of_cell? w _ hw349_0)).trans hw349_0), ((HB.out.cell (World.block_lt_of_cell? w _ hw349_1)).trans hw349_1), ((HB.out.cell (World.block_lt_of_cell? w _ hw349_2)).trans hw349_2)⟩ (fun hHeld => ?_)
                              clear hK K
                              refine norm_ (a' := ?_) ?_ ?_
                              rotate_left
                              · show Act.put _ (some 36) _ = _
                                simp only [Act.put, List.setIfInBounds_toArray, List.set_cons_zero, List.set_cons_succ, i64_w, i32_w]
                                rfl
                              refine pure_ (i := 7) (N := some 37) (v := ?_) (a' := ?_) #[true, true, true, true, true, true, true, true, true, true, true, true, false, false, false, false, false] rfl rfl (any_of HT_.out (by kernel_rfl)) (fun _ _ _ h => h) (Or.inl ⟨by rfl, ?_⟩) ?_ ?_
                              rotate_left
                              · intro w'
                                go_simp
                                with_reducible rfl
                              rotate_left
                              · simp only [Act.put, List.setIfInBounds_toArray, List.set_cons_zero, List.set_cons_succ, i64_w, i32_w]
                                rfl
                              refine one_ (i := 12) (N := some 42) #[true, true, true, true, true, true, true, true, true, true, true, true, true, false, false, false, false] rfl rfl (one_of HT_.out (by kernel_rfl)) (by decide) (fun K hK => ?_)
                              refine goes_ Tryd.func15 (by kernel_rfl) rfl #[.agg #[.int .i64 ((rd_T29 l0 x4_1).f0), .slice A347_1 ((rd_T29 l0 x4_1).f1).length c347_1, .bool ((rd_T29 l0 x4_1).f2)]] (by rfl) rfl rfl (by (try simp only [List.map_toArray, List.map_cons, List.map_nil]); first | done | rfl | (simp only [List.length_drop, List.length_take]; rfl)) ?_
                              with_reducible refine (spec_Line.calls kj6 ((rd_T29 l0 x4_1).f0) _ _ ((rd_T29 l0 x4_1).f1) ((rd_T29 l0 x4_1).f2) t350 _ ?side1 ?side2 A17.out).mono ?_
                              (case side1 => repeat (first | exact (Kd.C_below HR349_1.out HB.out) | (with_reducible refine Kd.C_alloc ?_ _) | (with_reducible refine Kd.C_drewN ?_ _) | (with_reducible refine Kd.C_drew ?_)))
                              (case side2 => exact HC349_1.out)
                              rintro e w23 ⟨rfl, hb⟩
                              refine ⟨_, rfl, ?_⟩
                              have n0_ := Aside0.mk (below_step (by repeat (first | (with_reducible first | exact HB.out | apply below_alloc | apply pw_below_drewN | apply below_drew1) | exact HB.out)) hb)
                              clear HB
                              have HB := n0_
                              clear n0_
                              (try clear hb)
                              (try clear hb2)
                              (try clear hk)
                              (try clear hi)
                              refine hK.out _ _ ⟨((HB.out.cell (World.block_lt_of_cell? w _ hw347_0)).trans hw347_0), ((HB.out.cell (World.block_lt_of_cell? w _ hw347_1)).trans hw347_1), ((HB.out.cell (World.block_lt_of_cell? w _ hw347_2)).trans hw347_2), ((HB.out.cell (World.block_lt_of_cell? w _ hw349_0)).trans hw349_0), ((HB.out.cell (World.block_lt_of_cell? w _ hw349_1)).trans hw349_1), ((HB.out.cell (World.block_lt_of_cell? w _ hw349_2)).trans hw349_2)⟩ (fun hHeld => ?_)
                              clear hK K
                              refine norm_ (a' := ?_) ?_ ?_
                              rotate_left
                              · show Act.put _ (some 42) _ = _
                                simp only [Act.put, List.setIfInBounds_toArray, List.set_cons_zero, List.set_cons_succ, i64_w, i32_w]
                                rfl
                              refine pure_ (i := 13) (N := some 43) (v := ?_) (a' := ?_) #[true, true, true, true, true, true, true, true, true, true, true, true, true, true, false, false, false] rfl rfl (any_of HT_.out (by kernel_rfl)) (fun _ _ _ h => h) (Or.inl ⟨by rfl, ?_⟩) ?_ ?_
                              rotate_left
                              · intro w'
                                go_simp
                                with_reducible rfl
                              rotate_left
                              · simp only [Act.put, List.setIfInBounds_toArray, List.set_cons_zero, List.set_cons_succ, i64_w, i32_w]
                                rfl
                              refine pure_ (i := 14) (N := some 44) (v := ?_) (a' := ?_) #[true, true, true, true, true, true, true, true, true, true, true, true, true, true, true, false, false] rfl rfl (any_of HT_.out (by kernel_rfl)) (fun _ _ _ h => h) (Or.inl ⟨by rfl, ?_⟩) ?_ ?_
                              rotate_left
                              · intro w'
                                go_simp
                                with_reducible rfl
                              rotate_left
                              · simp only [Act.put, List.setIfInBounds_toArray, List.set_cons_zero, List.set_cons_succ, i64_w, i32_w]
                                rfl
                              refine pure_ (i := 15) (N := some 45) (v := ?_) (a' := ?_) #[true, true, true, true, true, true, true, true, true, true, true, true, true, true, true, true, false] rfl rfl (any_of HT_.out (by kernel_rfl)) (fun _ _ _ h => h) (Or.inl ⟨by rfl, ?_⟩) ?_ ?_
                              rotate_left
                              · intro w'
                                go_simp
                                with_reducible rfl
                              rotate_left
                              · simp only [Act.put, List.setIfInBounds_toArray, List.set_cons_zero, List.set_cons_succ, i64_w, i32_w]
                                rfl
                              refine pure_ (i := 16) (N := some 3) (v := ?_) (a' := ?_) #[true, true, true, true, true, true, true, true, true, true, true, true, true, true, true, true, true] rfl rfl (any_of HT_.out (by kernel_rfl)) (fun _ _ _ h => h) (Or.inl ⟨by rfl, ?_⟩) ?_ ?_
                              rotate_left
                              · intro w'
                                go_simp
                                with_reducible rfl
                              rotate_left
                              · simp only [Act.put, List.setIfInBounds_toArray, List.set_cons_zero, List.set_cons_succ, i64_w, i32_w]
                                rfl
                              refine done_ (done_of HT_.out (by kernel_rfl)) ?_
                              try go_wp2
                              go_roundg kj6
                              case measure => have := HK1.out; have := HJ3.out; have := HJ6.out; omega
                              case rel => exact ⟨(x3_3 ++ (((t348 ++ (⟨#[32]⟩ : ByteArray)) ++ t350) ++ (⟨#[10]⟩ : ByteArray))), (wrap64 (x4_1 + 1)), (by first | rfl | (simp; done) | (simp [*]; done)), (by first | rfl | (simp; done) | (simp [*]; done)), H', ⟨by have := HK1.out; have := HJ3.out; have := HJ6.out; omega⟩, ⟨by repeat (first | (with_reducible first | exact HB.out | apply below_alloc | apply pw_below_drewN | apply below_drew1) | exact HB.out)⟩⟩
                            · rw [if_neg c20] at H
                              exact absurd H (by simp)
                          · rw [if_neg c19] at H
                            exact absurd H (by simp)
                        · rw [if_neg c18] at H
                          exact absurd H (by simp)
                      · rw [if_neg c16] at H
                        exact absurd H (by simp)
                    · rw [if_neg c14] at H
                      exact absurd H (by simp)
                  · rw [if_neg c13] at H
                    exact absurd H (by simp)
                · replace c12 := Bool.eq_false_iff.mpr c12
                  subst c12
                  have H1 : (if 0 ≤ x4_1 then (if x4_1 < (l0.length : Int) then ((spec_Name.f ((rd_T29 l0 x4_1).f0)).bind fun t352 => (if t352.size + 3 ≤ 9223372036854775807 then (if x3_3.size + (t352 ++ (⟨#[32, 40, 10]⟩ : ByteArray)).size ≤ 9223372036854775807 then (if x4_1 ≤ (wrap64 (x4_1 + t344)) then (if (wrap64 (x4_1 + t344)) ≤ (l0.length : Int) then ((some ((l0.take ((wrap64 (x4_1 + t344)) : Int).toNat).drop (x4_1 : Int).toNat : List (S29))).bind fun y353 => (spec_Text.l1 kj6 l0 (x3_3 ++ (t352 ++ (⟨#[32, 40, 10]⟩ : ByteArray))) x4_1 t344 y353 (y353.length : Int) 0)) else (none)) else (none)) else (none)) else (none))) else (none)) else (none)) = some r := by rw [if_neg (show ¬ (false = true) by decide)] at H; exact H
                  clear H
                  have H := H1
                  clear H1
                  by_cases c24 : 0 ≤ x4_1
                  · rw [if_pos c24] at H
                    have c24b0 : decide (0 ≤ x4_1) = true := decide_eq_true c24
                    clear c24
                    by_cases c25 : x4_1 < (l0.length : Int)
                    · rw [if_pos c25] at H
                      have c25b0 : decide (x4_1 < (l0.length : Int)) = true := decide_eq_true c25
                      clear c25
                      replace H := Option.bind_eq_some_iff.mp H
                      obtain ⟨t352, A260, H⟩ := H
                      replace H : (if t352.size + 3 ≤ 9223372036854775807 then (if x3_3.size + (t352 ++ (⟨#[32, 40, 10]⟩ : ByteArray)).size ≤ 9223372036854775807 then (if x4_1 ≤ (wrap64 (x4_1 + t344)) then (if (wrap64 (x4_1 + t344)) ≤ (l0.length : Int) then ((some ((l0.take ((wrap64 (x4_1 + t344)) : Int).toNat).drop (x4_1 : Int).toNat : List (S29))).bind fun y353 => (spec_Text.l1 kj6 l0 (x3_3 ++ (t352 ++ (⟨#[32, 40, 10]⟩ : ByteArray))) x4_1 t344 y353 (y353.length : Int) 0)) else (none)) else (none)) else (none)) else (none)) = some r := H
                      have A26 := Aside0.mk A260
                      clear A260
                      by_cases c27 : t352.size + 3 ≤ 9223372036854775807
                      · rw [if_pos c27] at H
                        have c27b0 := eq_true c27
                        have c27b1 : decide (t352.size + 3 ≤ 9223372036854775807) = true := decide_eq_true c27
                        try have c27b2 : (9223372036854775807 < t352.size + 3) = False := eq_false (Nat.not_lt.2 c27)
                        try have c27b3 := c27b2
                        try simp only [ByteArray.size_append, own_sz12_0, own_sz12_1, own_sz12_2, own_sz12_3, own_sz12_4, own_sz12_5] at c27b3
                        by_cases c28 : x3_3.size + (t352 ++ (⟨#[32, 40, 10]⟩ : ByteArray)).size ≤ 9223372036854775807
                        · rw [if_pos c28] at H
                          have c28b0 := eq_true c28
                          have c28b1 : decide (x3_3.size + (t352 ++ (⟨#[32, 40, 10]⟩ : ByteArray)).size ≤ 9223372036854775807) = true := decide_eq_true c28
                          try have c28b2 : (9223372036854775807 < x3_3.size + (t352 ++ (⟨#[32, 40, 10]⟩ : ByteArray)).size) = False := eq_false (Nat.not_lt.2 c28)
                          try have c28b3 := c28b2
                          try simp only [ByteArray.size_append, own_sz12_0, own_sz12_1, own_sz12_2, own_sz12_3, own_sz12_4, own_sz12_5] at c28b3
                          have c29b0 := eq_true (of_decide_eq_true (by first | (with_reducible assumption) | assumption) : 0 ≤ x4_1)
                          by_cases c30 : x4_1 ≤ (wrap64 (x4_1 + t344))
                          · rw [if_pos c30] at H
                            have c30b0 := eq_true c30
                            have c30b1 : decide (x4_1 ≤ (wrap64 (x4_1 + t344))) = true := decide_eq_true c30
                            by_cases c31 : (wrap64 (x4_1 + t344)) ≤ (l0.length : Int)
                            · rw [if_pos c31] at H
                              have c31b0 := eq_true c31
                              have c31b1 : decide ((wrap64 (x4_1 + t344)) ≤ (l0.length : Int)) = true := decide_eq_true c31
                              obtain ⟨y353, hy353⟩ : ∃ y_ : List (S29), y_ = ((l0.take ((wrap64 (x4_1 + t344)) : Int).toNat).drop (x4_1 : Int).toNat) := ⟨_, rfl⟩
                              replace H : (spec_Text.l1 kj6 l0 (x3_3 ++ (t352 ++ (⟨#[32, 40, 10]⟩ : ByteArray))) x4_1 t344 y353 (y353.length : Int) 0) = some r := by first | (rw [hy353]; with_reducible exact H) | (have H2_ := (Option.bind_some _ _).symm.trans H; rw [hy353]; with_reducible exact H2_) | (have H2_ := (Option.bind_some _ _).symm.trans H; with_reducible exact H2_) | with_reducible exact H | (rw [hy353]; exact H) | exact H
                              have Ny353 := Aside0.mk hy353
                              clear hy353
                              have H' := Aside0.mk H
                              clear H
                              have p351 : 0 ≤ (x4_1 : Int) := of_decide_eq_true (by first | (with_reducible assumption) | assumption)
                              have q351 : x4_1 < (l0.length : Int) := of_decide_eq_true (by first | (with_reducible assumption) | assumption)
                              obtain ⟨ad351, A351_1, c351_1, e351, hx351_0, hx351_1, hx351_2, hl351_1, hi351_1⟩ := at_T29 HR0.out x4_1 p351 q351
                              cases e351
                              replace hx351_0 := (HB.out.cell (World.block_lt_of_cell? w _ hx351_0)).trans hx351_0
                              replace hx351_1 := (HB.out.cell (World.block_lt_of_cell? w _ hx351_1)).trans hx351_1
                              replace hx351_2 := (HB.out.cell (World.block_lt_of_cell? w _ hx351_2)).trans hx351_2
                              have HR351_1 := Aside0.mk hi351_1
                              have HC351_1 := Aside0.mk hl351_1
                              clear hi351_1 hl351_1
                              replace p351 := eq_true p351
                              replace q351 := eq_true q351
                              go_wp2_with (first | ((with_reducible refine gate_callee (f := 17) rfl ?_); refine goesL_ (some 54) rfl rfl Tryd.func17 (by kernel_rfl) rfl #[.int .i64 ((rd_T29 l0 x4_1).f0)] rfl (by (try simp only [List.map_toArray, List.map_cons, List.map_nil]); first | done | rfl | (simp only [List.length_drop, List.length_take]; rfl)) ?_; (with_reducible refine (spec_Name.calls ((rd_T29 l0 x4_1).f0) t352 _ A26.out).mono ?_); rintro e w32 ⟨rfl, hb⟩; refine ⟨_, rfl, ?_⟩; have n0_ := Aside0.mk (below_step (by repeat (first | (with_reducible first | exact HB.out | apply below_alloc | apply pw_below_drewN | apply below_drew1) | exact HB.out)) hb); clear HB; have HB := n0_; clear n0_; (try clear hb); (try clear hb2); (try clear hk); (try clear hi); have q33 : ((wrap64 (x4_1 + t344)) : Int) ≤ ((l0.length : Int) : Int) := of_decide_eq_true (by first | (with_reducible assumption) | assumption); obtain ⟨i033, hi033, _, hsz33, _⟩ := info_parts info29; have hroom33 : l0.length ≤ c0 := HC0.out; have hC33 : Kd.C k29 _ (some ad351) l0.length l0 := HR0.out; have ql33 : (x4_1 : Int) ≤ ((wrap64 (x4_1 + t344)) : Int) := of_decide_eq_true (by first | (with_reducible assumption) | assumption); have q033 : (0 : Int) ≤ (x4_1 : Int) := of_decide_eq_true (by first | (with_reducible assumption) | assumption); have hcut33 := cut_mid (P := Tryd.prog) 22 29 .i64 .i64 Tryd.underlying22 hi033 3 hsz33 (some ad351) l0.length c0 x4_1 (wrap64 (x4_1 + t344)) q033 ql33 q33 hroom33; have hr33 := Kd.C_mid (lo := (x4_1 : Int).toNat) (hi := ((wrap64 (x4_1 + t344)) : Int).toNat) (c := c0) hC33 (by omega) (by omega) hroom33; obtain ⟨A33, hA33⟩ : ∃ A1, A1 = (if c0 = (x4_1 : Int).toNat then (some ad351) else ((some ad351) : Option Addr).map (·.add ((x4_1 : Int).toNat * 3))) := ⟨_, rfl⟩; obtain ⟨c33, hc33⟩ : ∃ c1, c1 = c0 - (x4_1 : Int).toNat := ⟨_, rfl⟩; have hy33 : y353.length = ((wrap64 (x4_1 + t344)) : Int).toNat - (x4_1 : Int).toNat := (by rw [Ny353.out, List.length_drop, List.length_take] <;> omega); rw [show ((l0).take ((wrap64 (x4_1 + t344)) : Int).toNat).drop (x4_1 : Int).toNat = y353 from Ny353.out.symm] at hr33; replace hr33 : Kd.C k29 _ A33 y353.length y353 := (by rw [hA33]; exact hr33); rw [← hy33, ← hA33, ← hc33] at hcut33; have HR356 := Aside0.mk hr33; have HC356 := Aside0.mk (show y353.length ≤ c33 from by rw [hy33, hc33]; exact Nat.sub_le_sub_right (Nat.le_trans (by omega) hroom33) _); clear hr33 hC33 hroom33 hi033 hsz33 hc33; have KY33 := Aside0.mk hy33; have KA33 := Aside0.mk hA33; clear hy33 hA33; replace q33 := eq_true q33))
                              go_loopg [3, 64] kj6 (fun kq v3 v64 w' => ∃ (x3_4 : ByteArray) (x64_4 : Int), v3 = .string x3_4 ∧ v64 = .int .i64 x64_4 ∧ Aside0 (spec_Text.l1 kq l0 x3_4 x4_1 t344 y353 (y353.length : Int) x64_4 = some r) ∧ Aside0 (kq ≤ kj6) ∧ Aside0 (Below w.heap.size w w'))
                              case atStart => exact ⟨(x3_3 ++ (t352 ++ (⟨#[32, 40, 10]⟩ : ByteArray))), (0), (by first | rfl | (simp; done) | (simp [*]; done)), (by first | rfl | (simp; done) | (simp [*]; done)), H', ⟨Nat.le_refl _⟩, ⟨by repeat (first | (with_reducible first | exact HB.out | apply below_alloc | apply pw_below_drewN | apply below_drew1) | exact HB.out)⟩⟩
                              case round =>
                                clear H'
                                try clear c1
                                try clear c2
                                try clear c2b0
                                try clear p2
                                try clear c3
                                try clear p3
                                try clear q3
                                try clear hx3
                                try clear c5
                                try clear c5b0
                                try clear c6
                                try clear c6b0
                                try clear c6b1
                                try clear c6b2
                                try clear p6
                                try clear c8
                                try clear c8b0
                                try clear c8b1
                                try clear c9
                                try clear c9b0
                                try clear c10
                                try clear c10b0
                                try clear c12
                                try clear c13
                                try clear c13b0
                                try clear c14
                                try clear c14b0
                                try clear c15
                                try clear c16
                                try clear c16b0
                                try clear c16b1
                                try clear c16b2
                                try clear c17
                                try clear c18
                                try clear c18b0
                                try clear c18b1
                                try clear c18b2
                                try clear c19
                                try clear c19b0
                                try clear c19b1
                                try clear c19b2
                                try clear c20
                                try clear c20b0
                                try clear c20b1
                                try clear c20b2
                                try clear c24
                                try clear c24b0
                                try clear c25
                                try clear c25b0
                                try clear c27
                                try clear c27b0
                                try clear c27b1
                                try clear c27b2
                                try clear c28
                                try clear c28b0
                                try clear c28b1
                                try clear c28b2
                                try clear c29
                                try clear c29b0
                                try clear c30
                                try clear c30b0
                                try clear c30b1
                                try clear c31
                                try clear c31b0
                                try clear c31b1
                                try clear c33
                                try clear q33
                                try clear hx345_0
                                try clear hx345_1
                                try clear hx345_2
                                try clear hx347_0
                                try clear hx347_1
                                try clear hx347_2
                                try clear hx349_0
                                try clear hx349_1
                                try clear hx349_2
                                try clear hx351_0
                                try clear hx351_1
                                try clear hx351_2
                                try clear p2
                                try clear p3
                                try clear p345
                                try clear p347
                                try clear p349
                                try clear p351
                                try clear q033
                                try clear q3
                                try clear q33
                                try clear q345
                                try clear q347
                                try clear q349
                                try clear q351
                                obtain ⟨x3_4, x64_4, rfl, rfl, HA, HK4, HB⟩ := hrel
                                cases gk with
                                | zero => exact absurd HA.out (by simp [spec_Text.l1])
                                | succ k4 =>
                                  have H := HA.out
                                  clear HA
                                  simp only [spec_Text.l1] at H
                                  by_cases c34 : x64_4 < (y353.length : Int)
                                  · rw [if_pos c34] at H
                                    have c34b0 : decide (x64_4 < (y353.length : Int)) = true := decide_eq_true c34
                                    clear c34
                                    by_cases c35 : 0 ≤ x64_4
                                    · rw [if_pos c35] at H
                                      have c35b0 : decide (0 ≤ x64_4) = true := decide_eq_true c35
                                      clear c35
                                      by_cases c36 : x64_4 < (y353.length : Int)
                                      · rw [if_pos c36] at H
                                        have c36b0 : decide (x64_4 < (y353.length : Int)) = true := decide_eq_true c36
                                        clear c36
                                        replace H := Option.bind_eq_some_iff.mp H
                                        obtain ⟨t359, A370, H⟩ := H
                                        replace H : (if 1 + t359.size ≤ 9223372036854775807 then (if ((⟨#[9]⟩ : ByteArray) ++ t359).size + 1 ≤ 9223372036854775807 then (if x3_4.size + (((⟨#[9]⟩ : ByteArray) ++ t359) ++ (⟨#[10]⟩ : ByteArray)).size ≤ 9223372036854775807 then (spec_Text.l1 k4 l0 (x3_4 ++ (((⟨#[9]⟩ : ByteArray) ++ t359) ++ (⟨#[10]⟩ : ByteArray))) x4_1 t344 y353 (y353.length : Int) (wrap64 (x64_4 + 1))) else (none)) else (none)) else (none)) = some r := H
                                        have A37 := Aside0.mk A370
                                        clear A370
                                        by_cases c38 : 1 + t359.size ≤ 9223372036854775807
                                        · rw [if_pos c38] at H
                                          have c38b0 := eq_true c38
                                          have c38b1 : decide (1 + t359.size ≤ 9223372036854775807) = true := decide_eq_true c38
                                          try have c38b2 : (9223372036854775807 < 1 + t359.size) = False := eq_false (Nat.not_lt.2 c38)
                                          try have c38b3 := c38b2
                                          try simp only [ByteArray.size_append, own_sz12_0, own_sz12_1, own_sz12_2, own_sz12_3, own_sz12_4, own_sz12_5] at c38b3
                                          by_cases c39 : ((⟨#[9]⟩ : ByteArray) ++ t359).size + 1 ≤ 9223372036854775807
                                          · rw [if_pos c39] at H
                                            have c39b0 := eq_true c39
                                            have c39b1 : decide (((⟨#[9]⟩ : ByteArray) ++ t359).size + 1 ≤ 9223372036854775807) = true := decide_eq_true c39
                                            try have c39b2 : (9223372036854775807 < ((⟨#[9]⟩ : ByteArray) ++ t359).size + 1) = False := eq_false (Nat.not_lt.2 c39)
                                            try have c39b3 := c39b2
                                            try simp only [ByteArray.size_append, own_sz12_0, own_sz12_1, own_sz12_2, own_sz12_3, own_sz12_4, own_sz12_5] at c39b3
                                            by_cases c40 : x3_4.size + (((⟨#[9]⟩ : ByteArray) ++ t359) ++ (⟨#[10]⟩ : ByteArray)).size ≤ 9223372036854775807
                                            · rw [if_pos c40] at H
                                              have c40b0 := eq_true c40
                                              have c40b1 : decide (x3_4.size + (((⟨#[9]⟩ : ByteArray) ++ t359) ++ (⟨#[10]⟩ : ByteArray)).size ≤ 9223372036854775807) = true := decide_eq_true c40
                                              try have c40b2 : (9223372036854775807 < x3_4.size + (((⟨#[9]⟩ : ByteArray) ++ t359) ++ (⟨#[10]⟩ : ByteArray)).size) = False := eq_false (Nat.not_lt.2 c40)
                                              try have c40b3 := c40b2
                                              try simp only [ByteArray.size_append, own_sz12_0, own_sz12_1, own_sz12_2, own_sz12_3, own_sz12_4, own_sz12_5] at c40b3
                                              have H' := Aside0.mk H
                                              clear H
                                              have p357 : 0 ≤ (x64_4 : Int) := of_decide_eq_true (by first | (with_reducible assumption) | assumption)
                                              have q357 : x64_4 < (y353.length : Int) := of_decide_eq_true (by first | (with_reducible assumption) | assumption)
                                              obtain ⟨ad357, A357_1, c357_1, e357, hx357_0, hx357_1, hx357_2, hl357_1, hi357_1⟩ := at_T29 HR356.out x64_4 p357 q357
                                              cases e357
                                              replace hx357_0 := (HB.out.cell (World.block_lt_of_cell? w _ hx357_0)).trans hx357_0
                                              replace hx357_1 := (HB.out.cell (World.block_lt_of_cell? w _ hx357_1)).trans hx357_1
                                              replace hx357_2 := (HB.out.cell (World.block_lt_of_cell? w _ hx357_2)).trans hx357_2
                                              have HR357_1 := Aside0.mk hi357_1
                                              have HC357_1 := Aside0.mk hl357_1
                                              clear hi357_1 hl357_1
                                              replace p357 := eq_true p357
                                              replace q357 := eq_true q357
                                              go_wp2_with (first | ((with_reducible refine gate_dst (N := 7) rfl ?_); refine box_event ?hg (N := 7) ?hd (cs := #[.int .i64 0, .slice none 0 0, .bool false]) (t := 29) ?hr ?_; (case hd => rfl); (case hg => rfl); (case hr => first | (go_simp; done) | (go_simp; rfl)); intro gb358 hg w41 hbox hb; have n0_ := Aside0.mk (below_step (by repeat (first | (with_reducible first | exact HB.out | apply below_alloc | apply pw_below_drewN | apply below_drew1) | exact HB.out)) hb); have n1_ := Aside0.mk (hbox); have n2_ := Aside0.mk ((by rw [hg]; exact (below_size (by repeat (first | (with_reducible first | exact HB.out | apply below_alloc | apply pw_below_drewN | apply below_drew1) | exact HB.out))) : w.heap.size ≤ gb358)); have n3_ := Aside0.mk ((by rw [hg]; exact (below_size (by repeat (first | (with_reducible first | exact HB.out | apply below_alloc | apply pw_below_drewN | apply below_drew1) | exact HB.out))) : w.heap.size ≤ gb358)); clear HB; have HB := n0_; have BK358 := n1_; have GW358 := n2_; have GE358 := n3_; clear n0_ n1_ n2_ n3_; clear hb hbox hg; have hcz42_0 : w41.cell? ⟨gb358, 0, none⟩ = some (.int .i64 0) := (blk_cell BK358.out 0).trans rfl; have hcz42_1 : w41.cell? ⟨gb358, 1, none⟩ = some (.slice none 0 0) := (blk_cell BK358.out 1).trans rfl; have hcz42_2 : w41.cell? ⟨gb358, 2, none⟩ = some (.bool false) := (blk_cell BK358.out 2).trans rfl; have hfz42_0 := blk_frozen BK358.out 0; have hfz42_1 := blk_frozen BK358.out 1; have hfz42_2 := blk_frozen BK358.out 2) | ((with_reducible refine gate_callee (f := 15) rfl ?_); refine goesL_ (some 70) rfl rfl Tryd.func15 (by kernel_rfl) rfl #[.agg #[.int .i64 ((rd_T29 y353 x64_4).f0), .slice A357_1 ((rd_T29 y353 x64_4).f1).length c357_1, .bool ((rd_T29 y353 x64_4).f2)]] rfl (by (try simp only [List.map_toArray, List.map_cons, List.map_nil]); first | done | rfl | (simp only [List.length_drop, List.length_take]; rfl)) ?_; (with_reducible refine (spec_Line.calls k4 ((rd_T29 y353 x64_4).f0) _ _ ((rd_T29 y353 x64_4).f1) ((rd_T29 y353 x64_4).f2) t359 _ ?side1 ?side2 A37.out).mono ?_); (case side1 => exact Kd.C_below HR357_1.out (by repeat (first | (with_reducible first | exact HB.out | apply below_alloc | apply pw_below_drewN | apply below_drew1 | refine below_set ?_ GE358.out) | exact HB.out))); (case side2 => exact HC357_1.out); rintro e w43 ⟨rfl, hb⟩; refine ⟨_, rfl, ?_⟩; have n0_ := Aside0.mk (blk_below (g := gb358) (o := .cells #[.int .i64 ((rd_T29 y353 x64_4).f0), .slice A357_1 ((rd_T29 y353 x64_4).f1).length c357_1, .bool ((rd_T29 y353 x64_4).f2)] 29 (0, 0)) (by (with_reducible repeat (first | refine blk_drewN ?_ _ | refine blk_drew ?_ | refine blk_alloc ?_ _)); refine blk_put (cs := #[.int .i64 ((rd_T29 y353 x64_4).f0), .slice A357_1 ((rd_T29 y353 x64_4).f1).length c357_1, .bool false]) ?_ 2 _ rfl; (with_reducible repeat (first | refine blk_drewN ?_ _ | refine blk_drew ?_ | refine blk_alloc ?_ _)); refine blk_put (cs := #[.int .i64 ((rd_T29 y353 x64_4).f0), .slice none 0 0, .bool false]) ?_ 1 _ rfl; (with_reducible repeat (first | refine blk_drewN ?_ _ | refine blk_drew ?_ | refine blk_alloc ?_ _)); refine blk_put (cs := #[.int .i64 0, .slice none 0 0, .bool false]) ?_ 0 _ rfl; (with_reducible repeat (first | refine blk_drewN ?_ _ | refine blk_drew ?_ | refine blk_alloc ?_ _)); exact BK358.out) hb); have n1_ := Aside0.mk (below_step (by repeat (first | (with_reducible first | exact HB.out | apply below_alloc | apply pw_below_drewN | apply below_drew1 | refine below_set ?_ GE358.out) | exact HB.out)) hb); clear BK358; clear HB; have BK358 := n0_; have HB := n1_; clear n0_ n1_; (try clear hb); (try clear hb2); (try clear hk); (try clear hi)))
                                              go_roundg k4
                                              case measure => have := HK1.out; have := HJ3.out; have := HJ6.out; have := HK4.out; omega
                                              case rel => exact ⟨(x3_4 ++ (((⟨#[9]⟩ : ByteArray) ++ t359) ++ (⟨#[10]⟩ : ByteArray))), (wrap64 (x64_4 + 1)), (by first | rfl | (simp; done) | (simp [*]; done)), (by first | rfl | (simp; done) | (simp [*]; done)), H', ⟨by have := HK1.out; have := HJ3.out; have := HJ6.out; have := HK4.out; omega⟩, ⟨by repeat (first | (with_reducible first | exact HB.out | apply below_alloc | apply pw_below_drewN | apply below_drew1 | refine below_set ?_ GE358.out) | exact HB.out)⟩⟩
                                            · rw [if_neg c40] at H
                                              exact absurd H (by simp)
                                          · rw [if_neg c39] at H
                                            exact absurd H (by simp)
                                        · rw [if_neg c38] at H
                                          exact absurd H (by simp)
                                      · rw [if_neg c36] at H
                                        exact absurd H (by simp)
                                    · rw [if_neg c35] at H
                                      exact absurd H (by simp)
                                  · rw [if_neg c34] at H
                                    have c34b0 : decide (x64_4 < (y353.length : Int)) = false := decide_eq_false c34
                                    clear c34
                                    by_cases c44 : x3_4.size + 2 ≤ 9223372036854775807
                                    · rw [if_pos c44] at H
                                      have c44b0 := eq_true c44
                                      have c44b1 : decide (x3_4.size + 2 ≤ 9223372036854775807) = true := decide_eq_true c44
                                      try have c44b2 : (9223372036854775807 < x3_4.size + 2) = False := eq_false (Nat.not_lt.2 c44)
                                      try have c44b3 := c44b2
                                      try simp only [ByteArray.size_append, own_sz12_0, own_sz12_1, own_sz12_2, own_sz12_3, own_sz12_4, own_sz12_5] at c44b3
                                      have H' := Aside0.mk H
                                      clear H
                                      go_wp2
                                      go_roundg k4
                                      case measure => have := HK1.out; have := HJ3.out; have := HJ6.out; have := HK4.out; omega
                                      case rel => exact ⟨(x3_4 ++ (⟨#[41, 10]⟩ : ByteArray)), (wrap64 (x4_1 + t344)), (by first | rfl | (simp; done) | (simp [*]; done)), (by first | rfl | (simp; done) | (simp [*]; done)), H', ⟨by have := HK1.out; have := HJ3.out; have := HJ6.out; have := HK4.out; omega⟩, ⟨by repeat (first | (with_reducible first | exact HB.out | apply below_alloc | apply pw_below_drewN | apply below_drew1) | exact HB.out)⟩⟩
                                    · rw [if_neg c44] at H
                                      exact absurd H (by simp)
                            · rw [if_neg c31] at H
                              exact absurd H (by simp)
                          · rw [if_neg c30] at H
                            exact absurd H (by simp)
                        · rw [if_neg c28] at H
                          exact absurd H (by simp)
                      · rw [if_neg c27] at H
                        exact absurd H (by simp)
                    · rw [if_neg c25] at H
                      exact absurd H (by simp)
                  · rw [if_neg c24] at H
                    exact absurd H (by simp)
      · rw [if_neg c2] at H
        have c2b0 : decide (x4_1 < (l0.length : Int)) = false := decide_eq_false c2
        clear c2
        obtain rfl := Option.some.inj H
        go_wp2
        go_ret
        exact ⟨by first | rfl | (simp [errW_none, errW_some] <;> rfl) | (simp [*, errW_none, errW_some] <;> rfl), by repeat (first | (with_reducible first | exact HB.out | apply below_alloc | apply pw_below_drewN | apply below_drew1) | exact HB.out)⟩

-- NOT PRINTED: function 3 (laws_FnModulePath)

end Go.Proofs.YtikgnlgmidbclaaDoor.PFnModulePath
