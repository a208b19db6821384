/- The walk of spec.Loose: it answers what its Lean function answers. Condition: that function answers. (Began as a text of print.sh.) -/
import Derived.Test.YtikgnlgmidbclaaDoorO0
import Derived.Test.YtikgnlgmidbclaaDoorO7
import Derived.Test.YtikgnlgmidbclaaDoorO8
import Derived.Test.YtikgnlgmidbclaaDoorO9
namespace Go.Proofs.YtikgnlgmidbclaaDoor.PFnModulePath
open Go.RowKit Go.Proofs.YtikgnlgmidbclaaDoorW.PrintWords Go.Proofs.YtikgnlgmidbclaaDoorW.PrintLast Go.Proofs.YtikgnlgmidbclaaDoorW.PrintMore
attribute [local go_sem] max2_int min2_int max_two min_two max_three min_three max_four min_four   -- for this text's walks alone
set_option linter.unusedVariables false
set_option linter.unusedSimpArgs false

theorem own_e256 (x : Int) : x % 256 % 2 = x % 2 := by omega
theorem own_sz10_0 : (⟨#[]⟩ : ByteArray).size = 0 := rfl
theorem own_sz10_1 : (⟨#[9]⟩ : ByteArray).size = 1 := rfl
theorem own_sz10_2 : (⟨#[32]⟩ : ByteArray).size = 1 := rfl
theorem own_sz10_3 : (⟨#[10]⟩ : ByteArray).size = 1 := rfl
theorem own_sz10_4 : (⟨#[40, 10]⟩ : ByteArray).size = 2 := rfl
theorem own_sz10_5 : (⟨#[32, 32]⟩ : ByteArray).size = 2 := rfl
theorem own_sz10_6 : (⟨#[41, 10]⟩ : ByteArray).size = 2 := rfl
theorem own_sz10_7 : (⟨#[32, 9, 32]⟩ : ByteArray).size = 3 := rfl
/-! ### spec_Loose: function 7 -/
mutual
def spec_Loose.l0 : Nat → List Int → ByteArray → List (S29) → Int → Int → Option (ByteArray)
  | 0, _, _, _, _, _ => none
  | k + 1, x1, x5, x11, x12, x13 => if x13 < x12 then (if 0 ≤ x13 then (if x13 < (x11.length : Int) then (if (x1.length : Int) > 0 then (if (x1.length : Int) = 0 then (none) else (if 0 ≤ (Int.tmod x13 (x1.length : Int)) then (if (Int.tmod x13 (x1.length : Int)) < (x1.length : Int) then (spec_Loose.j1 k x1 x5 (rd x1 (Int.tmod x13 (x1.length : Int))) x11 x12 x13 ((rd_T29 x11 x13).f0) ((rd_T29 x11 x13).f1) ((rd_T29 x11 x13).f2)) else (none)) else (none))) else (spec_Loose.j1 k x1 x5 0 x11 x12 x13 ((rd_T29 x11 x13).f0) ((rd_T29 x11 x13).f1) ((rd_T29 x11 x13).f2))) else (none)) else (none)) else (some x5)
def spec_Loose.j1 : Nat → List Int → ByteArray → Int → List (S29) → Int → Int → Int → List ByteArray → Bool → Option (ByteArray)
  | 0, _, _, _, _, _, _, _, _, _ => none
  | k + 1, x1, x5, x8, x11, x12, x13, x328000, x328001, x328002 => (some (([(⟨#[32]⟩ : ByteArray), (⟨#[32, 32]⟩ : ByteArray), (⟨#[9]⟩ : ByteArray), (⟨#[32, 9, 32]⟩ : ByteArray)] : List ByteArray) : List ByteArray)).bind fun y329 => (if 0 ≤ (Int.tmod x8 4) then (if (Int.tmod x8 4) < (y329.length : Int) then ((spec_Line.f k x328000 x328001 x328002).bind fun t333 => (if (((Int.tdiv x8 4) % 256) % 2) = 1 then (if x328000 = 2 then ((spec_spread.f k t333 (rdOf ByteArray.empty y329 (Int.tmod x8 4)) false).bind fun t334 => (spec_Loose.j2 k x1 x5 x8 (rdOf ByteArray.empty y329 (Int.tmod x8 4)) t334 x11 x12 x13 x328000 x328001 x328002)) else (if x328000 = 3 then ((spec_spread.f k t333 (rdOf ByteArray.empty y329 (Int.tmod x8 4)) false).bind fun t335 => (spec_Loose.j2 k x1 x5 x8 (rdOf ByteArray.empty y329 (Int.tmod x8 4)) t335 x11 x12 x13 x328000 x328001 x328002)) else (if x328000 = 4 then ((spec_spread.f k t333 (rdOf ByteArray.empty y329 (Int.tmod x8 4)) false).bind fun t336 => (spec_Loose.j2 k x1 x5 x8 (rdOf ByteArray.empty y329 (Int.tmod x8 4)) t336 x11 x12 x13 x328000 x328001 x328002)) else ((spec_spread.f k t333 (rdOf ByteArray.empty y329 (Int.tmod x8 4)) (x328000 != 8)).bind fun t337 => (spec_Loose.j2 k x1 x5 x8 (rdOf ByteArray.empty y329 (Int.tmod x8 4)) t337 x11 x12 x13 x328000 x328001 x328002))))) else ((spec_spread.f k t333 (rdOf ByteArray.empty y329 (Int.tmod x8 4)) false).bind fun t338 => (spec_Loose.j2 k x1 x5 x8 (rdOf ByteArray.empty y329 (Int.tmod x8 4)) t338 x11 x12 x13 x328000 x328001 x328002)))) else (none)) else (none))
def spec_Loose.j2 : Nat → List Int → ByteArray → Int → ByteArray → ByteArray → List (S29) → Int → Int → Int → List ByteArray → Bool → Option (ByteArray)
  | 0, _, _, _, _, _, _, _, _, _, _, _ => none
  | k + 1, x1, x5, x8, x9, x10, x11, x12, x13, x328000, x328001, x328002 => (spec_blocked.f x328000).bind fun t339 => (if t339 = true then (spec_Loose.j3 k x1 x5 x8 x9 x10 x11 x12 x13 ((((Int.tdiv x8 8) % 256) % 2) == 1) x328000 x328001 x328002) else (spec_Loose.j3 k x1 x5 x8 x9 x10 x11 x12 x13 false x328000 x328001 x328002))
def spec_Loose.j3 : Nat → List Int → ByteArray → Int → ByteArray → ByteArray → List (S29) → Int → Int → Bool → Int → List ByteArray → Bool → Option (ByteArray)
  | 0, _, _, _, _, _, _, _, _, _, _, _, _ => none
  | k + 1, x1, x5, x8, x9, x10, x11, x12, x13, x69, x328000, x328001, x328002 => if x69 = true then ((spec_Name.f x328000).bind fun t340 => (if t340.size + x9.size ≤ 9223372036854775807 then (if (t340 ++ x9).size + 2 ≤ 9223372036854775807 then (if ((t340 ++ x9) ++ (⟨#[40, 10]⟩ : ByteArray)).size + x9.size ≤ 9223372036854775807 then (if (((t340 ++ x9) ++ (⟨#[40, 10]⟩ : ByteArray)) ++ x9).size + x10.size ≤ 9223372036854775807 then (if ((((t340 ++ x9) ++ (⟨#[40, 10]⟩ : ByteArray)) ++ x9) ++ x10).size + x9.size ≤ 9223372036854775807 then (if (((((t340 ++ x9) ++ (⟨#[40, 10]⟩ : ByteArray)) ++ x9) ++ x10) ++ x9).size + 1 ≤ 9223372036854775807 then (if ((((((t340 ++ x9) ++ (⟨#[40, 10]⟩ : ByteArray)) ++ x9) ++ x10) ++ x9) ++ (⟨#[10]⟩ : ByteArray)).size + x9.size ≤ 9223372036854775807 then (if (((((((t340 ++ x9) ++ (⟨#[40, 10]⟩ : ByteArray)) ++ x9) ++ x10) ++ x9) ++ (⟨#[10]⟩ : ByteArray)) ++ x9).size + 2 ≤ 9223372036854775807 then (if x5.size + ((((((((t340 ++ x9) ++ (⟨#[40, 10]⟩ : ByteArray)) ++ x9) ++ x10) ++ x9) ++ (⟨#[10]⟩ : ByteArray)) ++ x9) ++ (⟨#[41, 10]⟩ : ByteArray)).size ≤ 9223372036854775807 then (if (((Int.tdiv x8 16) % 256) % 2) = 1 then (if 1 + x9.size ≤ 9223372036854775807 then (if ((⟨#[10]⟩ : ByteArray) ++ x9).size + 1 ≤ 9223372036854775807 then (if (x5 ++ ((((((((t340 ++ x9) ++ (⟨#[40, 10]⟩ : ByteArray)) ++ x9) ++ x10) ++ x9) ++ (⟨#[10]⟩ : ByteArray)) ++ x9) ++ (⟨#[41, 10]⟩ : ByteArray))).size + (((⟨#[10]⟩ : ByteArray) ++ x9) ++ (⟨#[10]⟩ : ByteArray)).size ≤ 9223372036854775807 then (spec_Loose.l0 k x1 ((x5 ++ ((((((((t340 ++ x9) ++ (⟨#[40, 10]⟩ : ByteArray)) ++ x9) ++ x10) ++ x9) ++ (⟨#[10]⟩ : ByteArray)) ++ x9) ++ (⟨#[41, 10]⟩ : ByteArray))) ++ (((⟨#[10]⟩ : ByteArray) ++ x9) ++ (⟨#[10]⟩ : ByteArray))) x11 x12 (wrap64 (x13 + 1))) else (none)) else (none)) else (none)) else (spec_Loose.l0 k x1 (x5 ++ ((((((((t340 ++ x9) ++ (⟨#[40, 10]⟩ : ByteArray)) ++ x9) ++ x10) ++ x9) ++ (⟨#[10]⟩ : ByteArray)) ++ x9) ++ (⟨#[41, 10]⟩ : ByteArray))) x11 x12 (wrap64 (x13 + 1)))) else (none)) else (none)) else (none)) else (none)) else (none)) else (none)) else (none)) else (none)) else (none))) else ((spec_Name.f x328000).bind fun t341 => (if x9.size + t341.size ≤ 9223372036854775807 then (if (x9 ++ t341).size + x9.size ≤ 9223372036854775807 then (if ((x9 ++ t341) ++ x9).size + x10.size ≤ 9223372036854775807 then (if (((x9 ++ t341) ++ x9) ++ x10).size + x9.size ≤ 9223372036854775807 then (if ((((x9 ++ t341) ++ x9) ++ x10) ++ x9).size + 1 ≤ 9223372036854775807 then (if x5.size + (((((x9 ++ t341) ++ x9) ++ x10) ++ x9) ++ (⟨#[10]⟩ : ByteArray)).size ≤ 9223372036854775807 then (if (((Int.tdiv x8 16) % 256) % 2) = 1 then (if 1 + x9.size ≤ 9223372036854775807 then (if ((⟨#[10]⟩ : ByteArray) ++ x9).size + 1 ≤ 9223372036854775807 then (if (x5 ++ (((((x9 ++ t341) ++ x9) ++ x10) ++ x9) ++ (⟨#[10]⟩ : ByteArray))).size + (((⟨#[10]⟩ : ByteArray) ++ x9) ++ (⟨#[10]⟩ : ByteArray)).size ≤ 9223372036854775807 then (spec_Loose.l0 k x1 ((x5 ++ (((((x9 ++ t341) ++ x9) ++ x10) ++ x9) ++ (⟨#[10]⟩ : ByteArray))) ++ (((⟨#[10]⟩ : ByteArray) ++ x9) ++ (⟨#[10]⟩ : ByteArray))) x11 x12 (wrap64 (x13 + 1))) else (none)) else (none)) else (none)) else (spec_Loose.l0 k x1 (x5 ++ (((((x9 ++ t341) ++ x9) ++ x10) ++ x9) ++ (⟨#[10]⟩ : ByteArray))) x11 x12 (wrap64 (x13 + 1)))) else (none)) else (none)) else (none)) else (none)) else (none)) else (none)))
end
def spec_Loose.f (k : Nat) (l0 : List (S29)) (l1 : List Int) : Option (ByteArray) := spec_Loose.l0 k l1 (⟨#[]⟩ : ByteArray) l0 (l0.length : Int) 0
theorem spec_Loose.mono_l : ∀ k, (∀ y0 y1 y2 y3 y4, LeO (spec_Loose.l0 k y0 y1 y2 y3 y4) (spec_Loose.l0 (k + 1) y0 y1 y2 y3 y4)) ∧ (∀ y0 y1 y2 y3 y4 y5 y6 y7 y8, LeO (spec_Loose.j1 k y0 y1 y2 y3 y4 y5 y6 y7 y8) (spec_Loose.j1 (k + 1) y0 y1 y2 y3 y4 y5 y6 y7 y8)) ∧ (∀ y0 y1 y2 y3 y4 y5 y6 y7 y8 y9 y10, LeO (spec_Loose.j2 k y0 y1 y2 y3 y4 y5 y6 y7 y8 y9 y10) (spec_Loose.j2 (k + 1) y0 y1 y2 y3 y4 y5 y6 y7 y8 y9 y10)) ∧ (∀ y0 y1 y2 y3 y4 y5 y6 y7 y8 y9 y10 y11, LeO (spec_Loose.j3 k y0 y1 y2 y3 y4 y5 y6 y7 y8 y9 y10 y11) (spec_Loose.j3 (k + 1) y0 y1 y2 y3 y4 y5 y6 y7 y8 y9 y10 y11))
  | 0 => ⟨fun _ _ _ _ _ r h => by simp [spec_Loose.l0] at h, fun _ _ _ _ _ _ _ _ _ r h => by simp [spec_Loose.j1] at h, fun _ _ _ _ _ _ _ _ _ _ _ r h => by simp [spec_Loose.j2] at h, fun _ _ _ _ _ _ _ _ _ _ _ _ r h => by simp [spec_Loose.j3] at h⟩
  | k + 1 => by
    obtain ⟨ih0, ih1, ih2, ih3⟩ := spec_Loose.mono_l k
    refine ⟨?_, ?_, ?_, ?_⟩
    · intro y0 y1 y2 y3 y4
      unfold spec_Loose.l0
      repeat' first
      | (with_reducible exact ih0 _ _ _ _ _)
      | (with_reducible exact ih1 _ _ _ _ _ _ _ _ _)
      | (with_reducible exact ih2 _ _ _ _ _ _ _ _ _ _ _)
      | (with_reducible exact ih3 _ _ _ _ _ _ _ _ _ _ _ _)
      | (with_reducible exact spec_Line.mono _ _ _ _)
      | (with_reducible exact spec_spread.mono _ _ _ _)
      | (with_reducible exact LeO.refl _)
      | (with_reducible exact LeO.none _)
      | (with_reducible refine LeO.ite ?_ ?_)
      | (with_reducible refine LeO.bind ?_ (fun _ => ?_))
      | exact ih0 _ _ _ _ _
      | exact ih1 _ _ _ _ _ _ _ _ _
      | exact ih2 _ _ _ _ _ _ _ _ _ _ _
      | exact ih3 _ _ _ _ _ _ _ _ _ _ _ _
      | exact spec_Line.mono _ _ _ _
      | exact spec_spread.mono _ _ _ _
      | exact LeO.none _
      | refine LeO.ite ?_ ?_
      | refine LeO.bind ?_ (fun _ => ?_)
    · intro y0 y1 y2 y3 y4 y5 y6 y7 y8
      unfold spec_Loose.j1
      repeat' first
      | (with_reducible exact ih0 _ _ _ _ _)
      | (with_reducible exact ih1 _ _ _ _ _ _ _ _ _)
      | (with_reducible exact ih2 _ _ _ _ _ _ _ _ _ _ _)
      | (with_reducible exact ih3 _ _ _ _ _ _ _ _ _ _ _ _)
      | (with_reducible exact spec_Line.mono _ _ _ _)
      | (with_reducible exact spec_spread.mono _ _ _ _)
      | (with_reducible exact LeO.refl _)
      | (with_reducible exact LeO.none _)
      | (with_reducible refine LeO.ite ?_ ?_)
      | (with_reducible refine LeO.bind ?_ (fun _ => ?_))
      | exact ih0 _ _ _ _ _
      | exact ih1 _ _ _ _ _ _ _ _ _
      | exact ih2 _ _ _ _ _ _ _ _ _ _ _
      | exact ih3 _ _ _ _ _ _ _ _ _ _ _ _
      | exact spec_Line.mono _ _ _ _
      | exact spec_spread.mono _ _ _ _
      | exact LeO.none _
      | refine LeO.ite ?_ ?_
      | refine LeO.bind ?_ (fun _ => ?_)
    · intro y0 y1 y2 y3 y4 y5 y6 y7 y8 y9 y10
      unfold spec_Loose.j2
      repeat' first
      | (with_reducible exact ih0 _ _ _ _ _)
      | (with_reducible exact ih1 _ _ _ _ _ _ _ _ _)
      | (with_reducible exact ih2 _ _ _ _ _ _ _ _ _ _ _)
      | (with_reducible exact ih3 _ _ _ _ _ _ _ _ _ _ _ _)
      | (with_reducible exact spec_Line.mono _ _ _ _)
      | (with_reducible exact spec_spread.mono _ _ _ _)
      | (with_reducible exact LeO.refl _)
      | (with_reducible exact LeO.none _)
      | (with_reducible refine LeO.ite ?_ ?_)
      | (with_reducible refine LeO.bind ?_ (fun _ => ?_))
      | exact ih0 _ _ _ _ _
      | exact ih1 _ _ _ _ _ _ _ _ _
      | exact ih2 _ _ _ _ _ _ _ _ _ _ _
      | exact ih3 _ _ _ _ _ _ _ _ _ _ _ _
      | exact spec_Line.mono _ _ _ _
      | exact spec_spread.mono _ _ _ _
      | exact LeO.none _
      | refine LeO.ite ?_ ?_
      | refine LeO.bind ?_ (fun _ => ?_)
    · intro y0 y1 y2 y3 y4 y5 y6 y7 y8 y9 y10 y11
      unfold spec_Loose.j3
      repeat' first
      | (with_reducible exact ih0 _ _ _ _ _)
      | (with_reducible exact ih1 _ _ _ _ _ _ _ _ _)
      | (with_reducible exact ih2 _ _ _ _ _ _ _ _ _ _ _)
      | (with_reducible exact ih3 _ _ _ _ _ _ _ _ _ _ _ _)
      | (with_reducible exact spec_Line.mono _ _ _ _)
      | (with_reducible exact spec_spread.mono _ _ _ _)
      | (with_reducible exact LeO.refl _)
      | (with_reducible exact LeO.none _)
      | (with_reducible refine LeO.ite ?_ ?_)
      | (with_reducible refine LeO.bind ?_ (fun _ => ?_))
      | exact ih0 _ _ _ _ _
      | exact ih1 _ _ _ _ _ _ _ _ _
      | exact ih2 _ _ _ _ _ _ _ _ _ _ _
      | exact ih3 _ _ _ _ _ _ _ _ _ _ _ _
      | exact spec_Line.mono _ _ _ _
      | exact spec_spread.mono _ _ _ _
      | exact LeO.none _
      | refine LeO.ite ?_ ?_
      | refine LeO.bind ?_ (fun _ => ?_)
theorem spec_Loose.mono : ∀ a0 a1 k, LeO (spec_Loose.f k a0 a1) (spec_Loose.f (k + 1) a0 a1) := by
  intro a0 a1 k
  obtain ⟨ih0, ih1, ih2, ih3⟩ := spec_Loose.mono_l k
  unfold spec_Loose.f
  repeat' first
      | (with_reducible exact ih0 _ _ _ _ _)
      | (with_reducible exact ih1 _ _ _ _ _ _ _ _ _)
      | (with_reducible exact ih2 _ _ _ _ _ _ _ _ _ _ _)
      | (with_reducible exact ih3 _ _ _ _ _ _ _ _ _ _ _ _)
      | (with_reducible exact spec_Line.mono _ _ _ _)
      | (with_reducible exact spec_spread.mono _ _ _ _)
      | (with_reducible exact LeO.refl _)
      | (with_reducible exact LeO.none _)
      | (with_reducible refine LeO.ite ?_ ?_)
      | (with_reducible refine LeO.bind ?_ (fun _ => ?_))
      | exact ih0 _ _ _ _ _
      | exact ih1 _ _ _ _ _ _ _ _ _
      | exact ih2 _ _ _ _ _ _ _ _ _ _ _
      | exact ih3 _ _ _ _ _ _ _ _ _ _ _ _
      | exact spec_Line.mono _ _ _ _
      | exact spec_spread.mono _ _ _ _
      | exact LeO.none _
      | refine LeO.ite ?_ ?_
      | refine LeO.bind ?_ (fun _ => ?_)
set_option maxHeartbeats 8000000 in
set_option maxRecDepth 100000 in
theorem spec_Loose.calls (k : Nat) (A0 : Option Addr) (c0 : Nat) (l0 : List (S29)) (A1 : Option Addr) (c1 : Nat) (l1 : List Int) (r : ByteArray) (w : World) (hr0 : Kd.C k29 w A0 l0.length l0) (hc0 : l0.length ≤ c0) (hr1 : Kd.C (Kd.int .u8) w A1 l1.length l1) (hc1 : l1.length ≤ c1) (h : spec_Loose.f k l0 l1 = some r) :
    Calls Tryd.prog 7 #[.slice A0 l0.length c0, .slice A1 l1.length c1] w fun e w' => e = .returned (.string r) ∧ Below w.heap.size w w' := by
  have hu29 := Tryd.underlying29
  have HR0 := Aside0.mk hr0
  have HC0 := Aside0.mk hc0
  clear hr0 hc0
  have HR1 := Aside0.mk hr1
  have HC1 := Aside0.mk hc1
  clear hr1 hc1
  have HB := Aside0.mk (Below.refl w.heap.size w)
  have H : (spec_Loose.l0 k l1 (⟨#[]⟩ : ByteArray) l0 (l0.length : Int) 0) = some r := h
  clear h
  have H' := Aside0.mk H
  clear H
  go_enter Tryd.func7, Tryd.ntmps7
  go_wp2
  go_loopg [5, 13] k (fun kq v5 v13 w' => ∃ (x5_1 : ByteArray) (x13_1 : Int), v5 = .string x5_1 ∧ v13 = .int .i64 x13_1 ∧ Aside0 (spec_Loose.l0 kq l1 x5_1 l0 (l0.length : Int) x13_1 = some r) ∧ Aside0 (kq ≤ k) ∧ Aside0 (Below w.heap.size w w'))
  case atStart => exact ⟨((⟨#[]⟩ : ByteArray)), (0), (by first | rfl | (simp; done) | (simp [*]; done)), (by first | rfl | (simp; done) | (simp [*]; done)), H', ⟨Nat.le_refl _⟩, ⟨by repeat (first | (with_reducible first | exact HB.out | apply below_alloc | apply pw_below_drewN | apply below_drew1) | exact HB.out)⟩⟩
  case round =>
    clear H'
    try clear c1
    try clear p2
    obtain ⟨x5_1, x13_1, rfl, rfl, HA, HK1, HB⟩ := hrel
    cases gk with
    | zero => exact absurd HA.out (by simp [spec_Loose.l0])
    | succ k1 =>
      have H := HA.out
      clear HA
      simp only [spec_Loose.l0] at H
      by_cases c3 : x13_1 < (l0.length : Int)
      · rw [if_pos c3] at H
        have c3b0 : decide (x13_1 < (l0.length : Int)) = true := decide_eq_true c3
        clear c3
        by_cases c4 : 0 ≤ x13_1
        · rw [if_pos c4] at H
          have c4b0 : decide (0 ≤ x13_1) = true := decide_eq_true c4
          clear c4
          by_cases c5 : x13_1 < (l0.length : Int)
          · rw [if_pos c5] at H
            have c5b0 : decide (x13_1 < (l0.length : Int)) = true := decide_eq_true c5
            clear c5
            have HC6 := Aside0.mk H
            clear H
            have p326 : 0 ≤ (x13_1 : Int) := of_decide_eq_true (by first | (with_reducible assumption) | assumption)
            have q326 : x13_1 < (l0.length : Int) := of_decide_eq_true (by first | (with_reducible assumption) | assumption)
            obtain ⟨ad326, A326_1, c326_1, e326, hx326_0, hx326_1, hx326_2, hl326_1, hi326_1⟩ := at_T29 HR0.out x13_1 p326 q326
            cases e326
            replace hx326_0 := (HB.out.cell (World.block_lt_of_cell? w _ hx326_0)).trans hx326_0
            replace hx326_1 := (HB.out.cell (World.block_lt_of_cell? w _ hx326_1)).trans hx326_1
            replace hx326_2 := (HB.out.cell (World.block_lt_of_cell? w _ hx326_2)).trans hx326_2
            have HR326_1 := Aside0.mk hi326_1
            have HC326_1 := Aside0.mk hl326_1
            clear hi326_1 hl326_1
            replace p326 := eq_true p326
            replace q326 := eq_true q326
            go_upto_if 20 with (first | ((with_reducible refine gate_dst (N := 7) rfl ?_); refine box_event ?hg (N := 7) ?hd (cs := #[.int .i64 0, .slice none 0 0, .bool false]) (t := 29) ?hr ?_; (case hd => rfl); (case hg => rfl); (case hr => first | (go_simp; done) | (go_simp; rfl)); intro gb327 hg w7 hbox hb; have n0_ := Aside0.mk (below_step (by repeat (first | (with_reducible first | exact HB.out | apply below_alloc | apply pw_below_drewN | apply below_drew1) | exact HB.out)) hb); have n1_ := Aside0.mk (hbox); have n2_ := Aside0.mk ((by rw [hg]; exact (below_size (by repeat (first | (with_reducible first | exact HB.out | apply below_alloc | apply pw_below_drewN | apply below_drew1) | exact HB.out))) : w.heap.size ≤ gb327)); have n3_ := Aside0.mk ((by rw [hg]; exact (below_size (by repeat (first | (with_reducible first | exact HB.out | apply below_alloc | apply pw_below_drewN | apply below_drew1) | exact HB.out))) : w.heap.size ≤ gb327)); clear HB; have HB := n0_; have BK327 := n1_; have GW327 := n2_; have GE327 := n3_; clear n0_ n1_ n2_ n3_; clear hb hbox hg; have hcz8_0 : w7.cell? ⟨gb327, 0, none⟩ = some (.int .i64 0) := (blk_cell BK327.out 0).trans rfl; have hcz8_1 : w7.cell? ⟨gb327, 1, none⟩ = some (.slice none 0 0) := (blk_cell BK327.out 1).trans rfl; have hcz8_2 : w7.cell? ⟨gb327, 2, none⟩ = some (.bool false) := (blk_cell BK327.out 2).trans rfl; have hfz8_0 := blk_frozen BK327.out 0; have hfz8_1 := blk_frozen BK327.out 1; have hfz8_2 := blk_frozen BK327.out 2))
            (try simp only [Act.put, List.setIfInBounds_toArray, List.set_cons_zero, List.set_cons_succ])
            go_cut [8] (fun v8 wc => ∃ (kq : Nat) (x8_5 : Int), v8 = .int .u8 x8_5 ∧ Aside0 (spec_Loose.j1 kq l1 x5_1 x8_5 l0 (l0.length : Int) x13_1 ((rd_T29 l0 x13_1).f0) ((rd_T29 l0 x13_1).f1) ((rd_T29 l0 x13_1).f2) = some r) ∧ Aside0 (kq ≤ k1) ∧ Aside0 (wc.heap[gb327]? = some (.cells #[.int .i64 ((rd_T29 l0 x13_1).f0), (.slice A326_1 ((rd_T29 l0 x13_1).f1).length c326_1), .bool ((rd_T29 l0 x13_1).f2)] 29 (0, 0))) ∧ Aside0 (Below w.heap.size w wc))
            case first =>
              have H := HC6.out
              clear HC6
              by_cases c9 : (l1.length : Int) > 0
              · rw [if_pos c9] at H
                have c9b0 : decide (0 < (l1.length : Int)) = true := decide_eq_true c9
                have c9b1 : decide (0 < l1.length) = true := decide_eq_true (by omega)
                clear c9
                (first | rw [c9b0] | (simp only [i64_w, i32_w]; rw [c9b0]) | skip)
                by_cases c10 : (l1.length : Int) = 0
                · rw [if_pos c10] at H
                  exact absurd H (by simp)
                · rw [if_neg c10] at H
                  have c10b0 : ((l1.length : Int) == 0) = false := beq_eq_false_iff_ne.mpr c10
                  have c10b1 : ((l1.length : Int) != 0) = true := bne_iff_ne.mpr c10
                  have c10b2 : ¬ (l1 = []) := fun h_ => c10 (by rw [h_]; rfl)
                  obtain ⟨ji11, hji11⟩ : ∃ j_ : Int, (Int.tmod x13_1 (l1.length : Int)) = j_ := ⟨_, rfl⟩
                  replace H : (if 0 ≤ (ji11) then (if (ji11) < (l1.length : Int) then (spec_Loose.j1 k1 l1 x5_1 (rd l1 (ji11)) l0 (l0.length : Int) x13_1 ((rd_T29 l0 x13_1).f0) ((rd_T29 l0 x13_1).f1) ((rd_T29 l0 x13_1).f2)) else (none)) else (none)) = some r := by first | (rw [hji11] at H; exact H) | (simp only [hji11] at H ⊢; exact H)
                  by_cases c12 : 0 ≤ (ji11)
                  · rw [if_pos c12] at H
                    have c12b0 : decide (0 ≤ (ji11)) = true := decide_eq_true c12
                    clear c12
                    by_cases c13 : (ji11) < (l1.length : Int)
                    · rw [if_pos c13] at H
                      have c13b0 : decide ((ji11) < (l1.length : Int)) = true := decide_eq_true c13
                      clear c13
                      have H' := Aside0.mk H
                      clear H
                      have p328 : 0 ≤ ((ji11) : Int) := of_decide_eq_true (by first | (with_reducible assumption) | assumption)
                      have q328 : (ji11) < (l1.length : Int) := of_decide_eq_true (by first | (with_reducible assumption) | assumption)
                      obtain ⟨ad328, e328, hx328_0⟩ := Kd.at_int HR1.out (ji11) p328 q328
                      cases e328
                      have hn328_0 : ad328.block ≠ gb327 := Nat.ne_of_lt (Nat.lt_of_lt_of_le (by have := World.block_lt_of_cell? _ _ hx328_0; first | rwa [add_block] at this | exact this) GW327.out)
                      have hn328_1 : ad328.block ≠ gb327 := Nat.ne_of_lt (Nat.lt_of_lt_of_le (by have := World.block_lt_of_cell? _ _ hx328_0; first | rwa [add_block] at this | exact this) GW327.out)
                      have hn328_2 : ad328.block ≠ gb327 := Nat.ne_of_lt (Nat.lt_of_lt_of_le (by have := World.block_lt_of_cell? _ _ hx328_0; first | rwa [add_block] at this | exact this) GW327.out)
                      replace hx328_0 := (HB.out.cell (World.block_lt_of_cell? w _ hx328_0)).trans hx328_0
                      replace hx328_0 := (cell_far (p := ⟨gb327, 0, none⟩) (by first | (rw [add_block]; exact hn328_0) | (show (Addr.add _ _).block ≠ _; rw [add_block]; exact hn328_0) | exact hn328_0) (.int .i64 ((rd_T29 l0 x13_1).f0))).trans hx328_0
                      replace hx328_0 := (cell_far (p := ⟨gb327, 1, none⟩) (by first | (rw [add_block]; exact hn328_1) | (show (Addr.add _ _).block ≠ _; rw [add_block]; exact hn328_1) | exact hn328_1) (.slice A326_1 ((rd_T29 l0 x13_1).f1).length c326_1)).trans hx328_0
                      replace hx328_0 := (cell_far (p := ⟨gb327, 2, none⟩) (by first | (rw [add_block]; exact hn328_2) | (show (Addr.add _ _).block ≠ _; rw [add_block]; exact hn328_2) | exact hn328_2) (.bool ((rd_T29 l0 x13_1).f2))).trans hx328_0
                      clear hn328_0
                      clear hn328_1
                      clear hn328_2
                      replace p328 := eq_true p328
                      replace q328 := eq_true q328
                      go_wp2
                      go_meet
                      case rel => exact ⟨_, (rd l1 (ji11)), (by first | rfl | (simp; done) | (simp only [← hji11] <;> (first | rfl | simp)) | (simp [*]; done)), H', ⟨by have := HK1.out; first | omega | exact Nat.le_refl _⟩, ⟨by (with_reducible repeat (first | refine blk_drewN ?_ _ | refine blk_drew ?_ | refine blk_alloc ?_ _)); refine blk_put (cs := #[.int .i64 ((rd_T29 l0 x13_1).f0), .slice A326_1 ((rd_T29 l0 x13_1).f1).length c326_1, .bool false]) ?_ 2 _ rfl; (with_reducible repeat (first | refine blk_drewN ?_ _ | refine blk_drew ?_ | refine blk_alloc ?_ _)); refine blk_put (cs := #[.int .i64 ((rd_T29 l0 x13_1).f0), .slice none 0 0, .bool false]) ?_ 1 _ rfl; (with_reducible repeat (first | refine blk_drewN ?_ _ | refine blk_drew ?_ | refine blk_alloc ?_ _)); refine blk_put (cs := #[.int .i64 0, .slice none 0 0, .bool false]) ?_ 0 _ rfl; (with_reducible repeat (first | refine blk_drewN ?_ _ | refine blk_drew ?_ | refine blk_alloc ?_ _)); exact BK327.out⟩, ⟨by repeat (first | (with_reducible first | exact HB.out | apply below_alloc | apply pw_below_drewN | apply below_drew1 | refine below_set ?_ GE327.out) | exact HB.out)⟩⟩
                    · rw [if_neg c13] at H
                      exact absurd H (by simp)
                  · rw [if_neg c12] at H
                    exact absurd H (by simp)
              · rw [if_neg c9] at H
                have c9b0 : decide (0 < (l1.length : Int)) = false := decide_eq_false c9
                have c9b1 : decide (0 < l1.length) = false := decide_eq_false (by omega)
                obtain rfl : l1 = [] := List.length_eq_zero_iff.1 (by omega)
                clear c9
                (first | rw [c9b0] | (simp only [i64_w, i32_w]; rw [c9b0]) | skip)
                have H' := Aside0.mk H
                clear H
                go_wp2
                go_meet
                case rel => exact ⟨_, (0), (by first | rfl | (simp; done) | (simp [*]; done)), H', ⟨by have := HK1.out; first | omega | exact Nat.le_refl _⟩, ⟨by (with_reducible repeat (first | refine blk_drewN ?_ _ | refine blk_drew ?_ | refine blk_alloc ?_ _)); refine blk_put (cs := #[.int .i64 ((rd_T29 l0 x13_1).f0), .slice A326_1 ((rd_T29 l0 x13_1).f1).length c326_1, .bool false]) ?_ 2 _ rfl; (with_reducible repeat (first | refine blk_drewN ?_ _ | refine blk_drew ?_ | refine blk_alloc ?_ _)); refine blk_put (cs := #[.int .i64 ((rd_T29 l0 x13_1).f0), .slice none 0 0, .bool false]) ?_ 1 _ rfl; (with_reducible repeat (first | refine blk_drewN ?_ _ | refine blk_drew ?_ | refine blk_alloc ?_ _)); refine blk_put (cs := #[.int .i64 0, .slice none 0 0, .bool false]) ?_ 0 _ rfl; (with_reducible repeat (first | refine blk_drewN ?_ _ | refine blk_drew ?_ | refine blk_alloc ?_ _)); exact BK327.out⟩, ⟨by repeat (first | (with_reducible first | exact HB.out | apply below_alloc | apply pw_below_drewN | apply below_drew1 | refine below_set ?_ GE327.out) | exact HB.out)⟩⟩
            case rest =>
              clear HC6
              try clear c1
              try clear p2
              try clear c3
              try clear c3b0
              try clear p3
              try clear q3
              try clear hx3
              try clear c4
              try clear c4b0
              try clear c5
              try clear c5b0
              try clear c7
              try clear c9
              try clear c9b0
              try clear c9b1
              try clear c10
              try clear c10b0
              try clear c10b1
              try clear c10b2
              try clear c12
              try clear c12b0
              try clear c13
              try clear c13b0
              try clear hcz8_0
              try clear hcz8_1
              try clear hcz8_2
              try clear hfz8_0
              try clear hfz8_1
              try clear hfz8_2
              try clear hx326_0
              try clear hx326_1
              try clear hx326_2
              try clear hx328_0
              try clear p2
              try clear p326
              try clear p328
              try clear q326
              try clear q328
              obtain ⟨kq, x8_5, rfl, HA, HJ5, BK327, HB⟩ := hcut
              cases kq with
              | zero => exact absurd HA.out (by simp [spec_Loose.j1])
              | succ kj5 =>
                have H := HA.out
                clear HA
                simp only [spec_Loose.j1] at H
                obtain ⟨y329, hy329⟩ : ∃ y_ : List ByteArray, y_ = (([(⟨#[32]⟩ : ByteArray), (⟨#[32, 32]⟩ : ByteArray), (⟨#[9]⟩ : ByteArray), (⟨#[32, 9, 32]⟩ : ByteArray)] : List ByteArray)) := ⟨_, rfl⟩
                replace H : (if 0 ≤ (Int.tmod x8_5 4) then (if (Int.tmod x8_5 4) < (y329.length : Int) then ((spec_Line.f kj5 ((rd_T29 l0 x13_1).f0) ((rd_T29 l0 x13_1).f1) ((rd_T29 l0 x13_1).f2)).bind fun t333 => (if (((Int.tdiv x8_5 4) % 256) % 2) = 1 then (if ((rd_T29 l0 x13_1).f0) = 2 then ((spec_spread.f kj5 t333 (rdOf ByteArray.empty y329 (Int.tmod x8_5 4)) false).bind fun t334 => (spec_Loose.j2 kj5 l1 x5_1 x8_5 (rdOf ByteArray.empty y329 (Int.tmod x8_5 4)) t334 l0 (l0.length : Int) x13_1 ((rd_T29 l0 x13_1).f0) ((rd_T29 l0 x13_1).f1) ((rd_T29 l0 x13_1).f2))) else (if ((rd_T29 l0 x13_1).f0) = 3 then ((spec_spread.f kj5 t333 (rdOf ByteArray.empty y329 (Int.tmod x8_5 4)) false).bind fun t335 => (spec_Loose.j2 kj5 l1 x5_1 x8_5 (rdOf ByteArray.empty y329 (Int.tmod x8_5 4)) t335 l0 (l0.length : Int) x13_1 ((rd_T29 l0 x13_1).f0) ((rd_T29 l0 x13_1).f1) ((rd_T29 l0 x13_1).f2))) else (if ((rd_T29 l0 x13_1).f0) = 4 then ((spec_spread.f kj5 t333 (rdOf ByteArray.empty y329 (Int.tmod x8_5 4)) false).bind fun t336 => (spec_Loose.j2 kj5 l1 x5_1 x8_5 (rdOf ByteArray.empty y329 (Int.tmod x8_5 4)) t336 l0 (l0.length : Int) x13_1 ((rd_T29 l0 x13_1).f0) ((rd_T29 l0 x13_1).f1) ((rd_T29 l0 x13_1).f2))) else ((spec_spread.f kj5 t333 (rdOf ByteArray.empty y329 (Int.tmod x8_5 4)) (((rd_T29 l0 x13_1).f0) != 8)).bind fun t337 => (spec_Loose.j2 kj5 l1 x5_1 x8_5 (rdOf ByteArray.empty y329 (Int.tmod x8_5 4)) t337 l0 (l0.length : Int) x13_1 ((rd_T29 l0 x13_1).f0) ((rd_T29 l0 x13_1).f1) ((rd_T29 l0 x13_1).f2)))))) else ((spec_spread.f kj5 t333 (rdOf ByteArray.empty y329 (Int.tmod x8_5 4)) false).bind fun t338 => (spec_Loose.j2 kj5 l1 x5_1 x8_5 (rdOf ByteArray.empty y329 (Int.tmod x8_5 4)) t338 l0 (l0.length : Int) x13_1 ((rd_T29 l0 x13_1).f0) ((rd_T29 l0 x13_1).f1) ((rd_T29 l0 x13_1).f2))))) else (none)) else (none)) = some r := by first | (rw [hy329]; with_reducible exact H) | (have H2_ := (Option.bind_some _ _).symm.trans H; rw [hy329]; with_reducible exact H2_) | (have H2_ := (Option.bind_some _ _).symm.trans H; with_reducible exact H2_) | with_reducible exact H | (rw [hy329]; exact H) | exact H
                have Ny329 := Aside0.mk hy329
                clear hy329
                obtain ⟨ji14, hji14⟩ : ∃ j_ : Int, (Int.tmod x8_5 4) = j_ := ⟨_, rfl⟩
                replace H : (if 0 ≤ (ji14) then (if (ji14) < (y329.length : Int) then ((spec_Line.f kj5 ((rd_T29 l0 x13_1).f0) ((rd_T29 l0 x13_1).f1) ((rd_T29 l0 x13_1).f2)).bind fun t333 => (if (((Int.tdiv x8_5 4) % 256) % 2) = 1 then (if ((rd_T29 l0 x13_1).f0) = 2 then ((spec_spread.f kj5 t333 (rdOf ByteArray.empty y329 (ji14)) false).bind fun t334 => (spec_Loose.j2 kj5 l1 x5_1 x8_5 (rdOf ByteArray.empty y329 (ji14)) t334 l0 (l0.length : Int) x13_1 ((rd_T29 l0 x13_1).f0) ((rd_T29 l0 x13_1).f1) ((rd_T29 l0 x13_1).f2))) else (if ((rd_T29 l0 x13_1).f0) = 3 then ((spec_spread.f kj5 t333 (rdOf ByteArray.empty y329 (ji14)) false).bind fun t335 => (spec_Loose.j2 kj5 l1 x5_1 x8_5 (rdOf ByteArray.empty y329 (ji14)) t335 l0 (l0.length : Int) x13_1 ((rd_T29 l0 x13_1).f0) ((rd_T29 l0 x13_1).f1) ((rd_T29 l0 x13_1).f2))) else (if ((rd_T29 l0 x13_1).f0) = 4 then ((spec_spread.f kj5 t333 (rdOf ByteArray.empty y329 (ji14)) false).bind fun t336 => (spec_Loose.j2 kj5 l1 x5_1 x8_5 (rdOf ByteArray.empty y329 (ji14)) t336 l0 (l0.length : Int) x13_1 ((rd_T29 l0 x13_1).f0) ((rd_T29 l0 x13_1).f1) ((rd_T29 l0 x13_1).f2))) else ((spec_spread.f kj5 t333 (rdOf ByteArray.empty y329 (ji14)) (((rd_T29 l0 x13_1).f0) != 8)).bind fun t337 => (spec_Loose.j2 kj5 l1 x5_1 x8_5 (rdOf ByteArray.empty y329 (ji14)) t337 l0 (l0.length : Int) x13_1 ((rd_T29 l0 x13_1).f0) ((rd_T29 l0 x13_1).f1) ((rd_T29 l0 x13_1).f2)))))) else ((spec_spread.f kj5 t333 (rdOf ByteArray.empty y329 (ji14)) false).bind fun t338 => (spec_Loose.j2 kj5 l1 x5_1 x8_5 (rdOf ByteArray.empty y329 (ji14)) t338 l0 (l0.length : Int) x13_1 ((rd_T29 l0 x13_1).f0) ((rd_T29 l0 x13_1).f1) ((rd_T29 l0 x13_1).f2))))) else (none)) else (none)) = some r := by first | (rw [hji14] at H; exact H) | (simp only [hji14] at H ⊢; exact H)
                by_cases c15 : 0 ≤ (ji14)
                · rw [if_pos c15] at H
                  have c15b0 : decide (0 ≤ (ji14)) = true := decide_eq_true c15
                  clear c15
                  by_cases c16 : (ji14) < (y329.length : Int)
                  · rw [if_pos c16] at H
                    have c16b0 : decide ((ji14) < (y329.length : Int)) = true := decide_eq_true c16
                    clear c16
                    have HC17 := Aside0.mk H
                    clear H
                    go_upto_region 9 with (first | ((with_reducible refine gate_dst (N := 28) rfl ?_); refine Kd.R_lit Kd.string _ 9 ?hg (N := 28) ?hd (xs := ([(⟨#[32]⟩ : ByteArray), (⟨#[32, 32]⟩ : ByteArray), (⟨#[9]⟩ : ByteArray), (⟨#[32, 9, 32]⟩ : ByteArray)] : List ByteArray)) (inner := [.string (⟨#[32]⟩ : ByteArray), .string (⟨#[32, 32]⟩ : ByteArray), .string (⟨#[9]⟩ : ByteArray), .string (⟨#[32, 9, 32]⟩ : ByteArray)]) (ok := fun _ => True) (okp := fun _ => True) ?hr ?hp (fun _ hk => hk) trivial (Below.refl _ _) (Nat.le_refl _) (by simp) ?_; (case hd => rfl); (case hg => rfl); (case hr => first | (go_simp; done) | (go_simp; rfl)); (case hp => exact (Reps.one (show Kd.M Kd.string _ _ _ (⟨#[32]⟩ : ByteArray) [.string (⟨#[32]⟩ : ByteArray)] from rfl) (Reps.one (show Kd.M Kd.string _ _ _ (⟨#[32, 32]⟩ : ByteArray) [.string (⟨#[32, 32]⟩ : ByteArray)] from rfl) (Reps.one (show Kd.M Kd.string _ _ _ (⟨#[9]⟩ : ByteArray) [.string (⟨#[9]⟩ : ByteArray)] from rfl) (Reps.one (show Kd.M Kd.string _ _ _ (⟨#[32, 9, 32]⟩ : ByteArray) [.string (⟨#[32, 9, 32]⟩ : ByteArray)] from rfl) (Reps.none _ _)))))); intro v330 w18 ho19 hb hg_ hnew_; clear hg_ hnew_; (first | rw [← Ny329.out] at ho19 | (simp only [Int.reduceToNat] at ho19; rw [← Ny329.out] at ho19)); have n0_ := Aside0.mk (Kd.R_lower ho19 (below_size (by repeat (first | (with_reducible first | exact HB.out | apply below_alloc | apply pw_below_drewN | apply below_drew1 | refine below_set ?_ GE327.out) | exact HB.out)))); have n1_ := Aside0.mk (blk_below (g := gb327) (o := .cells #[.int .i64 ((rd_T29 l0 x13_1).f0), .slice A326_1 ((rd_T29 l0 x13_1).f1).length c326_1, .bool ((rd_T29 l0 x13_1).f2)] 29 (0, 0)) (by (with_reducible repeat (first | refine blk_drewN ?_ _ | refine blk_drew ?_ | refine blk_alloc ?_ _)); exact BK327.out) hb); have n2_ := Aside0.mk (below_step (by repeat (first | (with_reducible first | exact HB.out | apply below_alloc | apply pw_below_drewN | apply below_drew1 | refine below_set ?_ GE327.out) | exact HB.out)) hb); clear BK327; clear HB; have HO331 := n0_; have BK327 := n1_; have HB := n2_; clear n0_ n1_ n2_; clear hb ho19; obtain ⟨Ao20, co20, eo20⟩ := Kd.R_slice HO331.out; subst eo20; have p332 : 0 ≤ ((ji14) : Int) := of_decide_eq_true (by first | (with_reducible assumption) | assumption); have q332 : (ji14) < (y329.length : Int) := of_decide_eq_true (by first | (with_reducible assumption) | assumption); obtain ⟨ad332, e332, hx332_0⟩ := Kd.at_string (Kd.R_reads' HO331.out).2.2 (ji14) p332 q332; cases e332; replace p332 := eq_true p332; replace q332 := eq_true q332))
                    (try simp only [Act.put, List.setIfInBounds_toArray, List.set_cons_zero, List.set_cons_succ])
                    go_cut [10] (fun v10 wc => ∃ (kq : Nat) (x10_16 : ByteArray), v10 = .string x10_16 ∧ Aside0 (spec_Loose.j2 kq l1 x5_1 x8_5 (rdOf ByteArray.empty y329 (ji14)) x10_16 l0 (l0.length : Int) x13_1 ((rd_T29 l0 x13_1).f0) ((rd_T29 l0 x13_1).f1) ((rd_T29 l0 x13_1).f2) = some r) ∧ Aside0 (kq ≤ kj5) ∧ Aside0 (wc.heap[gb327]? = some (.cells #[.int .i64 ((rd_T29 l0 x13_1).f0), (.slice A326_1 ((rd_T29 l0 x13_1).f1).length c326_1), .bool ((rd_T29 l0 x13_1).f2)] 29 (0, 0))) ∧ Aside0 (Below w.heap.size w wc))
                    case first =>
                      have H := HC17.out
                      clear HC17
                      replace H := Option.bind_eq_some_iff.mp H
                      obtain ⟨t333, A210, H⟩ := H
                      replace H : (if (((Int.tdiv x8_5 4) % 256) % 2) = 1 then (if ((rd_T29 l0 x13_1).f0) = 2 then ((spec_spread.f kj5 t333 (rdOf ByteArray.empty y329 (ji14)) false).bind fun t334 => (spec_Loose.j2 kj5 l1 x5_1 x8_5 (rdOf ByteArray.empty y329 (ji14)) t334 l0 (l0.length : Int) x13_1 ((rd_T29 l0 x13_1).f0) ((rd_T29 l0 x13_1).f1) ((rd_T29 l0 x13_1).f2))) else (if ((rd_T29 l0 x13_1).f0) = 3 then ((spec_spread.f kj5 t333 (rdOf ByteArray.empty y329 (ji14)) false).bind fun t335 => (spec_Loose.j2 kj5 l1 x5_1 x8_5 (rdOf ByteArray.empty y329 (ji14)) t335 l0 (l0.length : Int) x13_1 ((rd_T29 l0 x13_1).f0) ((rd_T29 l0 x13_1).f1) ((rd_T29 l0 x13_1).f2))) else (if ((rd_T29 l0 x13_1).f0) = 4 then ((spec_spread.f kj5 t333 (rdOf ByteArray.empty y329 (ji14)) false).bind fun t336 => (spec_Loose.j2 kj5 l1 x5_1 x8_5 (rdOf ByteArray.empty y329 (ji14)) t336 l0 (l0.length : Int) x13_1 ((rd_T29 l0 x13_1).f0) ((rd_T29 l0 x13_1).f1) ((rd_T29 l0 x13_1).f2))) else ((spec_spread.f kj5 t333 (rdOf ByteArray.empty y329 (ji14)) (((rd_T29 l0 x13_1).f0) != 8)).bind fun t337 => (spec_Loose.j2 kj5 l1 x5_1 x8_5 (rdOf ByteArray.empty y329 (ji14)) t337 l0 (l0.length : Int) x13_1 ((rd_T29 l0 x13_1).f0) ((rd_T29 l0 x13_1).f1) ((rd_T29 l0 x13_1).f2)))))) else ((spec_spread.f kj5 t333 (rdOf ByteArray.empty y329 (ji14)) false).bind fun t338 => (spec_Loose.j2 kj5 l1 x5_1 x8_5 (rdOf ByteArray.empty y329 (ji14)) t338 l0 (l0.length : Int) x13_1 ((rd_T29 l0 x13_1).f0) ((rd_T29 l0 x13_1).f1) ((rd_T29 l0 x13_1).f2)))) = some r := H
                      have A21 := Aside0.mk A210
                      clear A210
                      by_cases c22 : (((Int.tdiv x8_5 4) % 256) % 2) = 1
                      · rw [if_pos c22] at H
                        have c22b0 : ((((Int.tdiv x8_5 4) % 256) % 2) == 1) = true := beq_iff_eq.mpr c22
                        have c22n0 : (Int.tdiv x8_5 4 % 2 == 1) = true := by have h_ := c22b0; rwa [own_e256] at h_
                        have c22b1 : ((((Int.tdiv x8_5 4) % 256) % 2) != 1) = false := bne_eq_false_iff_eq.mpr c22
                        clear c22
                        (first | rw [c22b0] | (simp only [i64_w, i32_w]; rw [c22b0]) | skip)
                        by_cases c23 : ((rd_T29 l0 x13_1).f0) = 2
                        · rw [if_pos c23] at H
                          have c23b0 : (((rd_T29 l0 x13_1).f0) == 2) = true := beq_iff_eq.mpr c23
                          have c23b1 : (((rd_T29 l0 x13_1).f0) != 2) = false := bne_eq_false_iff_eq.mpr c23
                          clear c23
                          replace H := Option.bind_eq_some_iff.mp H
                          obtain ⟨t334, A240, H⟩ := H
                          replace H : (spec_Loose.j2 kj5 l1 x5_1 x8_5 (rdOf ByteArray.empty y329 (ji14)) t334 l0 (l0.length : Int) x13_1 ((rd_T29 l0 x13_1).f0) ((rd_T29 l0 x13_1).f1) ((rd_T29 l0 x13_1).f2)) = some r := H
                          have A24 := Aside0.mk A240
                          clear A240
                          have H' := Aside0.mk H
                          clear H
                          have hcz25_0 : w18.cell? ⟨gb327, 0, none⟩ = some (.int .i64 ((rd_T29 l0 x13_1).f0)) := (blk_cell BK327.out 0).trans rfl
                          have hcz25_1 : w18.cell? ⟨gb327, 1, none⟩ = some (.slice A326_1 ((rd_T29 l0 x13_1).f1).length c326_1) := (blk_cell BK327.out 1).trans rfl
                          have hcz25_2 : w18.cell? ⟨gb327, 2, none⟩ = some (.bool ((rd_T29 l0 x13_1).f2)) := (blk_cell BK327.out 2).trans rfl
                          have hfz25_0 := blk_frozen BK327.out 0
                          have hfz25_1 := blk_frozen BK327.out 1
                          have hfz25_2 := blk_frozen BK327.out 2
                          go_wp2_with (first | ((with_reducible refine gate_callee (f := 15) rfl ?_); refine goesL_ (some 34) rfl rfl Tryd.func15 (by kernel_rfl) rfl #[.agg #[.int .i64 ((rd_T29 l0 x13_1).f0), .slice A326_1 ((rd_T29 l0 x13_1).f1).length c326_1, .bool ((rd_T29 l0 x13_1).f2)]] rfl (by (try simp only [List.map_toArray, List.map_cons, List.map_nil]); first | done | rfl | (simp only [List.length_drop, List.length_take]; rfl)) ?_; (with_reducible refine (spec_Line.calls kj5 ((rd_T29 l0 x13_1).f0) _ _ ((rd_T29 l0 x13_1).f1) ((rd_T29 l0 x13_1).f2) t333 _ ?side1 ?side2 A21.out).mono ?_); (case side1 => repeat (first | exact (Kd.C_below HR326_1.out HB.out) | (with_reducible refine Kd.C_alloc ?_ _) | (with_reducible refine Kd.C_drewN ?_ _) | (with_reducible refine Kd.C_drew ?_))); (case side2 => exact HC326_1.out); rintro e w26 ⟨rfl, hb⟩; refine ⟨_, rfl, ?_⟩; have n0_ := Aside0.mk (Kd.R_below (by (with_reducible repeat (first | apply Kd.R_alloc | apply Kd.R_drewN | apply Kd.R_drew)); exact HO331.out) hb); have n1_ := Aside0.mk (blk_below (g := gb327) (o := .cells #[.int .i64 ((rd_T29 l0 x13_1).f0), .slice A326_1 ((rd_T29 l0 x13_1).f1).length c326_1, .bool ((rd_T29 l0 x13_1).f2)] 29 (0, 0)) (by (with_reducible repeat (first | refine blk_drewN ?_ _ | refine blk_drew ?_ | refine blk_alloc ?_ _)); exact BK327.out) hb); have n2_ := Aside0.mk (below_step (by repeat (first | (with_reducible first | exact HB.out | apply below_alloc | apply pw_below_drewN | apply below_drew1 | refine below_set ?_ GE327.out) | exact HB.out)) hb); clear HO331; clear BK327; clear HB; have HO331 := n0_; have BK327 := n1_; have HB := n2_; clear n0_ n1_ n2_; (try clear hb); (try clear hb2); (try clear hk); (try clear hi); have hcz27_0 : w26.cell? ⟨gb327, 0, none⟩ = some (.int .i64 ((rd_T29 l0 x13_1).f0)) := (blk_cell BK327.out 0).trans rfl; have hcz27_1 : w26.cell? ⟨gb327, 1, none⟩ = some (.slice A326_1 ((rd_T29 l0 x13_1).f1).length c326_1) := (blk_cell BK327.out 1).trans rfl; have hcz27_2 : w26.cell? ⟨gb327, 2, none⟩ = some (.bool ((rd_T29 l0 x13_1).f2)) := (blk_cell BK327.out 2).trans rfl; have hfz27_0 := blk_frozen BK327.out 0; have hfz27_1 := blk_frozen BK327.out 1; have hfz27_2 := blk_frozen BK327.out 2) | ((with_reducible refine gate_callee (f := 14) rfl ?_); refine goesL_ (some 60) rfl rfl Tryd.func14 (by kernel_rfl) rfl #[.string t333, .string (rdOf ByteArray.empty y329 (ji14)), .bool false] rfl (by (try simp only [List.map_toArray, List.map_cons, List.map_nil]); first | done | (simp only [hji14]; rfl) | rfl | (simp only [List.length_drop, List.length_take]; rfl)) ?_; (with_reducible refine (spec_spread.calls kj5 t333 (rdOf ByteArray.empty y329 (ji14)) false t334 _ A24.out).mono ?_); rintro e w28 ⟨rfl, hb⟩; refine ⟨_, rfl, ?_⟩; have n0_ := Aside0.mk (Kd.R_below (by (with_reducible repeat (first | apply Kd.R_alloc | apply Kd.R_drewN | apply Kd.R_drew)); exact HO331.out) hb); have n1_ := Aside0.mk (blk_below (g := gb327) (o := .cells #[.int .i64 ((rd_T29 l0 x13_1).f0), .slice A326_1 ((rd_T29 l0 x13_1).f1).length c326_1, .bool ((rd_T29 l0 x13_1).f2)] 29 (0, 0)) (by (with_reducible repeat (first | refine blk_drewN ?_ _ | refine blk_drew ?_ | refine blk_alloc ?_ _)); exact BK327.out) hb); have n2_ := Aside0.mk (below_step (by repeat (first | (with_reducible first | exact HB.out | apply below_alloc | apply pw_below_drewN | apply below_drew1 | refine below_set ?_ GE327.out) | exact HB.out)) hb); clear HO331; clear BK327; clear HB; have HO331 := n0_; have BK327 := n1_; have HB := n2_; clear n0_ n1_ n2_; (try clear hb); (try clear hb2); (try clear hk); (try clear hi)))
                          go_meet
                          case rel => exact ⟨_, (t334), (by first | rfl | (simp; done) | (simp [*]; done)), H', ⟨by have := HK1.out; have := HJ5.out; first | omega | exact Nat.le_refl _⟩, ⟨by (with_reducible repeat (first | refine blk_drewN ?_ _ | refine blk_drew ?_ | refine blk_alloc ?_ _)); exact BK327.out⟩, ⟨by repeat (first | (with_reducible first | exact HB.out | apply below_alloc | apply pw_below_drewN | apply below_drew1 | refine below_set ?_ GE327.out) | exact HB.out)⟩⟩
                        · rw [if_neg c23] at H
                          have c23b0 : (((rd_T29 l0 x13_1).f0) == 2) = false := beq_eq_false_iff_ne.mpr c23
                          have c23b1 : (((rd_T29 l0 x13_1).f0) != 2) = true := bne_iff_ne.mpr c23
                          by_cases c29 : ((rd_T29 l0 x13_1).f0) = 3
                          · rw [if_pos c29] at H
                            have c29b0 : (((rd_T29 l0 x13_1).f0) == 3) = true := beq_iff_eq.mpr c29
                            have c29b1 : (((rd_T29 l0 x13_1).f0) != 3) = false := bne_eq_false_iff_eq.mpr c29
                            clear c29
                            replace H := Option.bind_eq_some_iff.mp H
                            obtain ⟨t335, A300, H⟩ := H
                            replace H : (spec_Loose.j2 kj5 l1 x5_1 x8_5 (rdOf ByteArray.empty y329 (ji14)) t335 l0 (l0.length : Int) x13_1 ((rd_T29 l0 x13_1).f0) ((rd_T29 l0 x13_1).f1) ((rd_T29 l0 x13_1).f2)) = some r := H
                            have A30 := Aside0.mk A300
                            clear A300
                            have H' := Aside0.mk H
                            clear H
                            have hcz31_0 : w18.cell? ⟨gb327, 0, none⟩ = some (.int .i64 ((rd_T29 l0 x13_1).f0)) := (blk_cell BK327.out 0).trans rfl
                            have hcz31_1 : w18.cell? ⟨gb327, 1, none⟩ = some (.slice A326_1 ((rd_T29 l0 x13_1).f1).length c326_1) := (blk_cell BK327.out 1).trans rfl
                            have hcz31_2 : w18.cell? ⟨gb327, 2, none⟩ = some (.bool ((rd_T29 l0 x13_1).f2)) := (blk_cell BK327.out 2).trans rfl
                            have hfz31_0 := blk_frozen BK327.out 0
                            have hfz31_1 := blk_frozen BK327.out 1
                            have hfz31_2 := blk_frozen BK327.out 2
                            go_wp2_with (first | ((with_reducible refine gate_callee (f := 15) rfl ?_); refine goesL_ (some 34) rfl rfl Tryd.func15 (by kernel_rfl) rfl #[.agg #[.int .i64 ((rd_T29 l0 x13_1).f0), .slice A326_1 ((rd_T29 l0 x13_1).f1).length c326_1, .bool ((rd_T29 l0 x13_1).f2)]] rfl (by (try simp only [List.map_toArray, List.map_cons, List.map_nil]); first | done | rfl | (simp only [List.length_drop, List.length_take]; rfl)) ?_; (with_reducible refine (spec_Line.calls kj5 ((rd_T29 l0 x13_1).f0) _ _ ((rd_T29 l0 x13_1).f1) ((rd_T29 l0 x13_1).f2) t333 _ ?side1 ?side2 A21.out).mono ?_); (case side1 => repeat (first | exact (Kd.C_below HR326_1.out HB.out) | (with_reducible refine Kd.C_alloc ?_ _) | (with_reducible refine Kd.C_drewN ?_ _) | (with_reducible refine Kd.C_drew ?_))); (case side2 => exact HC326_1.out); rintro e w32 ⟨rfl, hb⟩; refine ⟨_, rfl, ?_⟩; have n0_ := Aside0.mk (Kd.R_below (by (with_reducible repeat (first | apply Kd.R_alloc | apply Kd.R_drewN | apply Kd.R_drew)); exact HO331.out) hb); have n1_ := Aside0.mk (blk_below (g := gb327) (o := .cells #[.int .i64 ((rd_T29 l0 x13_1).f0), .slice A326_1 ((rd_T29 l0 x13_1).f1).length c326_1, .bool ((rd_T29 l0 x13_1).f2)] 29 (0, 0)) (by (with_reducible repeat (first | refine blk_drewN ?_ _ | refine blk_drew ?_ | refine blk_alloc ?_ _)); exact BK327.out) hb); have n2_ := Aside0.mk (below_step (by repeat (first | (with_reducible first | exact HB.out | apply below_alloc | apply pw_below_drewN | apply below_drew1 | refine below_set ?_ GE327.out) | exact HB.out)) hb); clear HO331; clear BK327; clear HB; have HO331 := n0_; have BK327 := n1_; have HB := n2_; clear n0_ n1_ n2_; (try clear hb); (try clear hb2); (try clear hk); (try clear hi); have hcz33_0 : w32.cell? ⟨gb327, 0, none⟩ = some (.int .i64 ((rd_T29 l0 x13_1).f0)) := (blk_cell BK327.out 0).trans rfl; have hcz33_1 : w32.cell? ⟨gb327, 1, none⟩ = some (.slice A326_1 ((rd_T29 l0 x13_1).f1).length c326_1) := (blk_cell BK327.out 1).trans rfl; have hcz33_2 : w32.cell? ⟨gb327, 2, none⟩ = some (.bool ((rd_T29 l0 x13_1).f2)) := (blk_cell BK327.out 2).trans rfl; have hfz33_0 := blk_frozen BK327.out 0; have hfz33_1 := blk_frozen BK327.out 1; have hfz33_2 := blk_frozen BK327.out 2) | ((with_reducible refine gate_callee (f := 14) rfl ?_); refine goesL_ (some 60) rfl rfl Tryd.func14 (by kernel_rfl) rfl #[.string t333, .string (rdOf ByteArray.empty y329 (ji14)), .bool false] rfl (by (try simp only [List.map_toArray, List.map_cons, List.map_nil]); first | done | (simp only [hji14]; rfl) | rfl | (simp only [List.length_drop, List.length_take]; rfl)) ?_; (with_reducible refine (spec_spread.calls kj5 t333 (rdOf ByteArray.empty y329 (ji14)) false t335 _ A30.out).mono ?_); rintro e w34 ⟨rfl, hb⟩; refine ⟨_, rfl, ?_⟩; have n0_ := Aside0.mk (Kd.R_below (by (with_reducible repeat (first | apply Kd.R_alloc | apply Kd.R_drewN | apply Kd.R_drew)); exact HO331.out) hb); have n1_ := Aside0.mk (blk_below (g := gb327) (o := .cells #[.int .i64 ((rd_T29 l0 x13_1).f0), .slice A326_1 ((rd_T29 l0 x13_1).f1).length c326_1, .bool ((rd_T29 l0 x13_1).f2)] 29 (0, 0)) (by (with_reducible repeat (first | refine blk_drewN ?_ _ | refine blk_drew ?_ | refine blk_alloc ?_ _)); exact BK327.out) hb); have n2_ := Aside0.mk (below_step (by repeat (first | (with_reducible first | exact HB.out | apply below_alloc | apply pw_below_drewN | apply below_drew1 | refine below_set ?_ GE327.out) | exact HB.out)) hb); clear HO331; clear BK327; clear HB; have HO331 := n0_; have BK327 := n1_; have HB := n2_; clear n0_ n1_ n2_; (try clear hb); (try clear hb2); (try clear hk); (try clear hi)))
                            go_meet
                            case rel => exact ⟨_, (t335), (by first | rfl | (simp; done) | (simp [*]; done)), H', ⟨by have := HK1.out; have := HJ5.out; first | omega | exact Nat.le_refl _⟩, ⟨by (with_reducible repeat (first | refine blk_drewN ?_ _ | refine blk_drew ?_ | refine blk_alloc ?_ _)); exact BK327.out⟩, ⟨by repeat (first | (with_reducible first | exact HB.out | apply below_alloc | apply pw_below_drewN | apply below_drew1 | refine below_set ?_ GE327.out) | exact HB.out)⟩⟩
                          · rw [if_neg c29] at H
                            have c29b0 : (((rd_T29 l0 x13_1).f0) == 3) = false := beq_eq_false_iff_ne.mpr c29
                            have c29b1 : (((rd_T29 l0 x13_1).f0) != 3) = true := bne_iff_ne.mpr c29
                            by_cases c35 : ((rd_T29 l0 x13_1).f0) = 4
                            · rw [if_pos c35] at H
                              have c35b0 : (((rd_T29 l0 x13_1).f0) == 4) = true := beq_iff_eq.mpr c35
                              have c35b1 : (((rd_T29 l0 x13_1).f0) != 4) = false := bne_eq_false_iff_eq.mpr c35
                              clear c35
                              replace H := Option.bind_eq_some_iff.mp H
                              obtain ⟨t336, A360, H⟩ := H
                              replace H : (spec_Loose.j2 kj5 l1 x5_1 x8_5 (rdOf ByteArray.empty y329 (ji14)) t336 l0 (l0.length : Int) x13_1 ((rd_T29 l0 x13_1).f0) ((rd_T29 l0 x13_1).f1) ((rd_T29 l0 x13_1).f2)) = some r := H
                              have A36 := Aside0.mk A360
                              clear A360
                              have H' := Aside0.mk H
                              clear H
                              have hcz37_0 : w18.cell? ⟨gb327, 0, none⟩ = some (.int .i64 ((rd_T29 l0 x13_1).f0)) := (blk_cell BK327.out 0).trans rfl
                              have hcz37_1 : w18.cell? ⟨gb327, 1, none⟩ = some (.slice A326_1 ((rd_T29 l0 x13_1).f1).length c326_1) := (blk_cell BK327.out 1).trans rfl
                              have hcz37_2 : w18.cell? ⟨gb327, 2, none⟩ = some (.bool ((rd_T29 l0 x13_1).f2)) := (blk_cell BK327.out 2).trans rfl
                              have hfz37_0 := blk_frozen BK327.out 0
                              have hfz37_1 := blk_frozen BK327.out 1
                              have hfz37_2 := blk_frozen BK327.out 2
                              go_wp2_with (first | ((with_reducible refine gate_callee (f := 15) rfl ?_); refine goesL_ (some 34) rfl rfl Tryd.func15 (by kernel_rfl) rfl #[.agg #[.int .i64 ((rd_T29 l0 x13_1).f0), .slice A326_1 ((rd_T29 l0 x13_1).f1).length c326_1, .bool ((rd_T29 l0 x13_1).f2)]] rfl (by (try simp only [List.map_toArray, List.map_cons, List.map_nil]); first | done | rfl | (simp only [List.length_drop, List.length_take]; rfl)) ?_; (with_reducible refine (spec_Line.calls kj5 ((rd_T29 l0 x13_1).f0) _ _ ((rd_T29 l0 x13_1).f1) ((rd_T29 l0 x13_1).f2) t333 _ ?side1 ?side2 A21.out).mono ?_); (case side1 => repeat (first | exact (Kd.C_below HR326_1.out HB.out) | (with_reducible refine Kd.C_alloc ?_ _) | (with_reducible refine Kd.C_drewN ?_ _) | (with_reducible refine Kd.C_drew ?_))); (case side2 => exact HC326_1.out); rintro e w38 ⟨rfl, hb⟩; refine ⟨_, rfl, ?_⟩; have n0_ := Aside0.mk (Kd.R_below (by (with_reducible repeat (first | apply Kd.R_alloc | apply Kd.R_drewN | apply Kd.R_drew)); exact HO331.out) hb); have n1_ := Aside0.mk (blk_below (g := gb327) (o := .cells #[.int .i64 ((rd_T29 l0 x13_1).f0), .slice A326_1 ((rd_T29 l0 x13_1).f1).length c326_1, .bool ((rd_T29 l0 x13_1).f2)] 29 (0, 0)) (by (with_reducible repeat (first | refine blk_drewN ?_ _ | refine blk_drew ?_ | refine blk_alloc ?_ _)); exact BK327.out) hb); have n2_ := Aside0.mk (below_step (by repeat (first | (with_reducible first | exact HB.out | apply below_alloc | apply pw_below_drewN | apply below_drew1 | refine below_set ?_ GE327.out) | exact HB.out)) hb); clear HO331; clear BK327; clear HB; have HO331 := n0_; have BK327 := n1_; have HB := n2_; clear n0_ n1_ n2_; (try clear hb); (try clear hb2); (try clear hk); (try clear hi); have hcz39_0 : w38.cell? ⟨gb327, 0, none⟩ = some (.int .i64 ((rd_T29 l0 x13_1).f0)) := (blk_cell BK327.out 0).trans rfl; have hcz39_1 : w38.cell? ⟨gb327, 1, none⟩ = some (.slice A326_1 ((rd_T29 l0 x13_1).f1).length c326_1) := (blk_cell BK327.out 1).trans rfl; have hcz39_2 : w38.cell? ⟨gb327, 2, none⟩ = some (.bool ((rd_T29 l0 x13_1).f2)) := (blk_cell BK327.out 2).trans rfl; have hfz39_0 := blk_frozen BK327.out 0; have hfz39_1 := blk_frozen BK327.out 1; have hfz39_2 := blk_frozen BK327.out 2) | ((with_reducible refine gate_callee (f := 14) rfl ?_); refine goesL_ (some 60) rfl rfl Tryd.func14 (by kernel_rfl) rfl #[.string t333, .string (rdOf ByteArray.empty y329 (ji14)), .bool false] rfl (by (try simp only [List.map_toArray, List.map_cons, List.map_nil]); first | done | (simp only [hji14]; rfl) | rfl | (simp only [List.length_drop, List.length_take]; rfl)) ?_; (with_reducible refine (spec_spread.calls kj5 t333 (rdOf ByteArray.empty y329 (ji14)) false t336 _ A36.out).mono ?_); rintro e w40 ⟨rfl, hb⟩; refine ⟨_, rfl, ?_⟩; have n0_ := Aside0.mk (Kd.R_below (by (with_reducible repeat (first | apply Kd.R_alloc | apply Kd.R_drewN | apply Kd.R_drew)); exact HO331.out) hb); have n1_ := Aside0.mk (blk_below (g := gb327) (o := .cells #[.int .i64 ((rd_T29 l0 x13_1).f0), .slice A326_1 ((rd_T29 l0 x13_1).f1).length c326_1, .bool ((rd_T29 l0 x13_1).f2)] 29 (0, 0)) (by (with_reducible repeat (first | refine blk_drewN ?_ _ | refine blk_drew ?_ | refine blk_alloc ?_ _)); exact BK327.out) hb); have n2_ := Aside0.mk (below_step (by repeat (first | (with_reducible first | exact HB.out | apply below_alloc | apply pw_below_drewN | apply below_drew1 | refine below_set ?_ GE327.out) | exact HB.out)) hb); clear HO331; clear BK327; clear HB; have HO331 := n0_; have BK327 := n1_; have HB := n2_; clear n0_ n1_ n2_; (try clear hb); (try clear hb2); (try clear hk); (try clear hi)))
                              go_meet
                              case rel => exact ⟨_, (t336), (by first | rfl | (simp; done) | (simp [*]; done)), H', ⟨by have := HK1.out; have := HJ5.out; first | omega | exact Nat.le_refl _⟩, ⟨by (with_reducible repeat (first | refine blk_drewN ?_ _ | refine blk_drew ?_ | refine blk_alloc ?_ _)); exact BK327.out⟩, ⟨by repeat (first | (with_reducible first | exact HB.out | apply below_alloc | apply pw_below_drewN | apply below_drew1 | refine below_set ?_ GE327.out) | exact HB.out)⟩⟩
                            · rw [if_neg c35] at H
                              have c35b0 : (((rd_T29 l0 x13_1).f0) == 4) = false := beq_eq_false_iff_ne.mpr c35
                              have c35b1 : (((rd_T29 l0 x13_1).f0) != 4) = true := bne_iff_ne.mpr c35
                              replace H := Option.bind_eq_some_iff.mp H
                              obtain ⟨t337, A410, H⟩ := H
                              replace H : (spec_Loose.j2 kj5 l1 x5_1 x8_5 (rdOf ByteArray.empty y329 (ji14)) t337 l0 (l0.length : Int) x13_1 ((rd_T29 l0 x13_1).f0) ((rd_T29 l0 x13_1).f1) ((rd_T29 l0 x13_1).f2)) = some r := H
                              have A41 := Aside0.mk A410
                              clear A410
                              have H' := Aside0.mk H
                              clear H
                              have hcz42_0 : w18.cell? ⟨gb327, 0, none⟩ = some (.int .i64 ((rd_T29 l0 x13_1).f0)) := (blk_cell BK327.out 0).trans rfl
                              have hcz42_1 : w18.cell? ⟨gb327, 1, none⟩ = some (.slice A326_1 ((rd_T29 l0 x13_1).f1).length c326_1) := (blk_cell BK327.out 1).trans rfl
                              have hcz42_2 : w18.cell? ⟨gb327, 2, none⟩ = some (.bool ((rd_T29 l0 x13_1).f2)) := (blk_cell BK327.out 2).trans rfl
                              have hfz42_0 := blk_frozen BK327.out 0
                              have hfz42_1 := blk_frozen BK327.out 1
                              have hfz42_2 := blk_frozen BK327.out 2
                              go_wp2_with (first | ((with_reducible refine gate_callee (f := 15) rfl ?_); refine goesL_ (some 34) rfl rfl Tryd.func15 (by kernel_rfl) rfl #[.agg #[.int .i64 ((rd_T29 l0 x13_1).f0), .slice A326_1 ((rd_T29 l0 x13_1).f1).length c326_1, .bool ((rd_T29 l0 x13_1).f2)]] rfl (by (try simp only [List.map_toArray, List.map_cons, List.map_nil]); first | done | rfl | (simp only [List.length_drop, List.length_take]; rfl)) ?_; (with_reducible refine (spec_Line.calls kj5 ((rd_T29 l0 x13_1).f0) _ _ ((rd_T29 l0 x13_1).f1) ((rd_T29 l0 x13_1).f2) t333 _ ?side1 ?side2 A21.out).mono ?_); (case side1 => repeat (first | exact (Kd.C_below HR326_1.out HB.out) | (with_reducible refine Kd.C_alloc ?_ _) | (with_reducible refine Kd.C_drewN ?_ _) | (with_reducible refine Kd.C_drew ?_))); (case side2 => exact HC326_1.out); rintro e w43 ⟨rfl, hb⟩; refine ⟨_, rfl, ?_⟩; have n0_ := Aside0.mk (Kd.R_below (by (with_reducible repeat (first | apply Kd.R_alloc | apply Kd.R_drewN | apply Kd.R_drew)); exact HO331.out) hb); have n1_ := Aside0.mk (blk_below (g := gb327) (o := .cells #[.int .i64 ((rd_T29 l0 x13_1).f0), .slice A326_1 ((rd_T29 l0 x13_1).f1).length c326_1, .bool ((rd_T29 l0 x13_1).f2)] 29 (0, 0)) (by (with_reducible repeat (first | refine blk_drewN ?_ _ | refine blk_drew ?_ | refine blk_alloc ?_ _)); exact BK327.out) hb); have n2_ := Aside0.mk (below_step (by repeat (first | (with_reducible first | exact HB.out | apply below_alloc | apply pw_below_drewN | apply below_drew1 | refine below_set ?_ GE327.out) | exact HB.out)) hb); clear HO331; clear BK327; clear HB; have HO331 := n0_; have BK327 := n1_; have HB := n2_; clear n0_ n1_ n2_; (try clear hb); (try clear hb2); (try clear hk); (try clear hi); have hcz44_0 : w43.cell? ⟨gb327, 0, none⟩ = some (.int .i64 ((rd_T29 l0 x13_1).f0)) := (blk_cell BK327.out 0).trans rfl; have hcz44_1 : w43.cell? ⟨gb327, 1, none⟩ = some (.slice A326_1 ((rd_T29 l0 x13_1).f1).length c326_1) := (blk_cell BK327.out 1).trans rfl; have hcz44_2 : w43.cell? ⟨gb327, 2, none⟩ = some (.bool ((rd_T29 l0 x13_1).f2)) := (blk_cell BK327.out 2).trans rfl; have hfz44_0 := blk_frozen BK327.out 0; have hfz44_1 := blk_frozen BK327.out 1; have hfz44_2 := blk_frozen BK327.out 2) | ((with_reducible refine gate_callee (f := 14) rfl ?_); refine goesL_ (some 60) rfl rfl Tryd.func14 (by kernel_rfl) rfl #[.string t333, .string (rdOf ByteArray.empty y329 (ji14)), .bool (((rd_T29 l0 x13_1).f0) != 8)] rfl (by (try simp only [List.map_toArray, List.map_cons, List.map_nil]); first | done | (simp only [hji14]; rfl) | rfl | (simp only [List.length_drop, List.length_take]; rfl)) ?_; (with_reducible refine (spec_spread.calls kj5 t333 (rdOf ByteArray.empty y329 (ji14)) (((rd_T29 l0 x13_1).f0) != 8) t337 _ A41.out).mono ?_); rintro e w45 ⟨rfl, hb⟩; refine ⟨_, rfl, ?_⟩; have n0_ := Aside0.mk (Kd.R_below (by (with_reducible repeat (first | apply Kd.R_alloc | apply Kd.R_drewN | apply Kd.R_drew)); exact HO331.out) hb); have n1_ := Aside0.mk (blk_below (g := gb327) (o := .cells #[.int .i64 ((rd_T29 l0 x13_1).f0), .slice A326_1 ((rd_T29 l0 x13_1).f1).length c326_1, .bool ((rd_T29 l0 x13_1).f2)] 29 (0, 0)) (by (with_reducible repeat (first | refine blk_drewN ?_ _ | refine blk_drew ?_ | refine blk_alloc ?_ _)); exact BK327.out) hb); have n2_ := Aside0.mk (below_step (by repeat (first | (with_reducible first | exact HB.out | apply below_alloc | apply pw_below_drewN | apply below_drew1 | refine below_set ?_ GE327.out) | exact HB.out)) hb); clear HO331; clear BK327; clear HB; have HO331 := n0_; have BK327 := n1_; have HB := n2_; clear n0_ n1_ n2_; (try clear hb); (try clear hb2); (try clear hk); (try clear hi)))
                              go_meet
                              case rel => exact ⟨_, (t337), (by first | rfl | (simp; done) | (simp [*]; done)), H', ⟨by have := HK1.out; have := HJ5.out; first | omega | exact Nat.le_refl _⟩, ⟨by (with_reducible repeat (first | refine blk_drewN ?_ _ | refine blk_drew ?_ | refine blk_alloc ?_ _)); exact BK327.out⟩, ⟨by repeat (first | (with_reducible first | exact HB.out | apply below_alloc | apply pw_below_drewN | apply below_drew1 | refine below_set ?_ GE327.out) | exact HB.out)⟩⟩
                      · rw [if_neg c22] at H
                        have c22b0 : ((((Int.tdiv x8_5 4) % 256) % 2) == 1) = false := beq_eq_false_iff_ne.mpr c22
                        have c22n0 : (Int.tdiv x8_5 4 % 2 == 1) = false := by have h_ := c22b0; rwa [own_e256] at h_
                        have c22b1 : ((((Int.tdiv x8_5 4) % 256) % 2) != 1) = true := bne_iff_ne.mpr c22
                        (first | rw [c22b0] | (simp only [i64_w, i32_w]; rw [c22b0]) | skip)
                        replace H := Option.bind_eq_some_iff.mp H
                        obtain ⟨t338, A460, H⟩ := H
                        replace H : (spec_Loose.j2 kj5 l1 x5_1 x8_5 (rdOf ByteArray.empty y329 (ji14)) t338 l0 (l0.length : Int) x13_1 ((rd_T29 l0 x13_1).f0) ((rd_T29 l0 x13_1).f1) ((rd_T29 l0 x13_1).f2)) = some r := H
                        have A46 := Aside0.mk A460
                        clear A460
                        have H' := Aside0.mk H
                        clear H
                        have hcz47_0 : w18.cell? ⟨gb327, 0, none⟩ = some (.int .i64 ((rd_T29 l0 x13_1).f0)) := (blk_cell BK327.out 0).trans rfl
                        have hcz47_1 : w18.cell? ⟨gb327, 1, none⟩ = some (.slice A326_1 ((rd_T29 l0 x13_1).f1).length c326_1) := (blk_cell BK327.out 1).trans rfl
                        have hcz47_2 : w18.cell? ⟨gb327, 2, none⟩ = some (.bool ((rd_T29 l0 x13_1).f2)) := (blk_cell BK327.out 2).trans rfl
                        have hfz47_0 := blk_frozen BK327.out 0
                        have hfz47_1 := blk_frozen BK327.out 1
                        have hfz47_2 := blk_frozen BK327.out 2
                        go_wp2_with (first | ((with_reducible refine gate_callee (f := 15) rfl ?_); refine goesL_ (some 34) rfl rfl Tryd.func15 (by kernel_rfl) rfl #[.agg #[.int .i64 ((rd_T29 l0 x13_1).f0), .slice A326_1 ((rd_T29 l0 x13_1).f1).length c326_1, .bool ((rd_T29 l0 x13_1).f2)]] rfl (by (try simp only [List.map_toArray, List.map_cons, List.map_nil]); first | done | rfl | (simp only [List.length_drop, List.length_take]; rfl)) ?_; (with_reducible refine (spec_Line.calls kj5 ((rd_T29 l0 x13_1).f0) _ _ ((rd_T29 l0 x13_1).f1) ((rd_T29 l0 x13_1).f2) t333 _ ?side1 ?side2 A21.out).mono ?_); (case side1 => repeat (first | exact (Kd.C_below HR326_1.out HB.out) | (with_reducible refine Kd.C_alloc ?_ _) | (with_reducible refine Kd.C_drewN ?_ _) | (with_reducible refine Kd.C_drew ?_))); (case side2 => exact HC326_1.out); rintro e w48 ⟨rfl, hb⟩; refine ⟨_, rfl, ?_⟩; have n0_ := Aside0.mk (Kd.R_below (by (with_reducible repeat (first | apply Kd.R_alloc | apply Kd.R_drewN | apply Kd.R_drew)); exact HO331.out) hb); have n1_ := Aside0.mk (blk_below (g := gb327) (o := .cells #[.int .i64 ((rd_T29 l0 x13_1).f0), .slice A326_1 ((rd_T29 l0 x13_1).f1).length c326_1, .bool ((rd_T29 l0 x13_1).f2)] 29 (0, 0)) (by (with_reducible repeat (first | refine blk_drewN ?_ _ | refine blk_drew ?_ | refine blk_alloc ?_ _)); exact BK327.out) hb); have n2_ := Aside0.mk (below_step (by repeat (first | (with_reducible first | exact HB.out | apply below_alloc | apply pw_below_drewN | apply below_drew1 | refine below_set ?_ GE327.out) | exact HB.out)) hb); clear HO331; clear BK327; clear HB; have HO331 := n0_; have BK327 := n1_; have HB := n2_; clear n0_ n1_ n2_; (try clear hb); (try clear hb2); (try clear hk); (try clear hi)) | ((with_reducible refine gate_callee (f := 14) rfl ?_); refine goesL_ (some 60) rfl rfl Tryd.func14 (by kernel_rfl) rfl #[.string t333, .string (rdOf ByteArray.empty y329 (ji14)), .bool false] rfl (by (try simp only [List.map_toArray, List.map_cons, List.map_nil]); first | done | (simp only [hji14]; rfl) | rfl | (simp only [List.length_drop, List.length_take]; rfl)) ?_; (with_reducible refine (spec_spread.calls kj5 t333 (rdOf ByteArray.empty y329 (ji14)) false t338 _ A46.out).mono ?_); rintro e w49 ⟨rfl, hb⟩; refine ⟨_, rfl, ?_⟩; have n0_ := Aside0.mk (Kd.R_below (by (with_reducible repeat (first | apply Kd.R_alloc | apply Kd.R_drewN | apply Kd.R_drew)); exact HO331.out) hb); have n1_ := Aside0.mk (blk_below (g := gb327) (o := .cells #[.int .i64 ((rd_T29 l0 x13_1).f0), .slice A326_1 ((rd_T29 l0 x13_1).f1).length c326_1, .bool ((rd_T29 l0 x13_1).f2)] 29 (0, 0)) (by (with_reducible repeat (first | refine blk_drewN ?_ _ | refine blk_drew ?_ | refine blk_alloc ?_ _)); exact BK327.out) hb); have n2_ := Aside0.mk (below_step (by repeat (first | (with_reducible first | exact HB.out | apply below_alloc | apply pw_below_drewN | apply below_drew1 | refine below_set ?_ GE327.out) | exact HB.out)) hb); clear HO331; clear BK327; clear HB; have HO331 := n0_; have BK327 := n1_; have HB := n2_; clear n0_ n1_ n2_; (try clear hb); (try clear hb2); (try clear hk); (try clear hi)))
                        go_meet
                        case rel => exact ⟨_, (t338), (by first | rfl | (simp; done) | (simp [*]; done)), H', ⟨by have := HK1.out; have := HJ5.out; first | omega | exact Nat.le_refl _⟩, ⟨by (with_reducible repeat (first | refine blk_drewN ?_ _ | refine blk_drew ?_ | refine blk_alloc ?_ _)); exact BK327.out⟩, ⟨by repeat (first | (with_reducible first | exact HB.out | apply below_alloc | apply pw_below_drewN | apply below_drew1 | refine below_set ?_ GE327.out) | exact HB.out)⟩⟩
                    case rest =>
                      clear HC17
                      try clear c1
                      try clear c2
                      try clear p2
                      try clear c3
                      try clear c3b0
                      try clear p3
                      try clear q3
                      try clear hx3
                      try clear c4
                      try clear c4b0
                      try clear c5
                      try clear c5b0
                      try clear c7
                      try clear c9
                      try clear c9b0
                      try clear c9b1
                      try clear c10
                      try clear c10b0
                      try clear c10b1
                      try clear c10b2
                      try clear c12
                      try clear c12b0
                      try clear c13
                      try clear c13b0
                      try clear c14
                      try clear c15
                      try clear c15b0
                      try clear c16
                      try clear c16b0
                      try clear c22
                      try clear c22b0
                      try clear c22b1
                      try clear c23
                      try clear c23b0
                      try clear c23b1
                      try clear c29
                      try clear c29b0
                      try clear c29b1
                      try clear c32
                      try clear p32
                      try clear q32
                      try clear hx32
                      try clear p33
                      try clear q33
                      try clear hx33
                      try clear c35
                      try clear c35b0
                      try clear c35b1
                      try clear hcz25_0
                      try clear hcz25_1
                      try clear hcz25_2
                      try clear hcz27_0
                      try clear hcz27_1
                      try clear hcz27_2
                      try clear hcz31_0
                      try clear hcz31_1
                      try clear hcz31_2
                      try clear hcz33_0
                      try clear hcz33_1
                      try clear hcz33_2
                      try clear hcz37_0
                      try clear hcz37_1
                      try clear hcz37_2
                      try clear hcz39_0
                      try clear hcz39_1
                      try clear hcz39_2
                      try clear hcz42_0
                      try clear hcz42_1
                      try clear hcz42_2
                      try clear hcz44_0
                      try clear hcz44_1
                      try clear hcz44_2
                      try clear hcz47_0
                      try clear hcz47_1
                      try clear hcz47_2
                      try clear hcz8_0
                      try clear hcz8_1
                      try clear hcz8_2
                      try clear hfz25_0
                      try clear hfz25_1
                      try clear hfz25_2
                      try clear hfz27_0
                      try clear hfz27_1
                      try clear hfz27_2
                      try clear hfz31_0
                      try clear hfz31_1
                      try clear hfz31_2
                      try clear hfz33_0
                      try clear hfz33_1
                      try clear hfz33_2
                      try clear hfz37_0
                      try clear hfz37_1
                      try clear hfz37_2
                      try clear hfz39_0
                      try clear hfz39_1
                      try clear hfz39_2
                      try clear hfz42_0
                      try clear hfz42_1
                      try clear hfz42_2
                      try clear hfz44_0
                      try clear hfz44_1
                      try clear hfz44_2
                      try clear hfz47_0
                      try clear hfz47_1
                      try clear hfz47_2
                      try clear hfz8_0
                      try clear hfz8_1
                      try clear hfz8_2
                      try clear hx326_0
                      try clear hx326_1
                      try clear hx326_2
                      try clear hx328_0
                      try clear hx332_0
                      try clear p2
                      try clear p3
                      try clear p326
                      try clear p328
                      try clear p332
                      try clear q3
                      try clear q326
                      try clear q328
                      try clear q332
                      obtain ⟨kq, x10_16, rfl, HA, HJ16, BK327, HB⟩ := hcut
                      cases kq with
                      | zero => exact absurd HA.out (by simp [spec_Loose.j2])
                      | succ kj16 =>
                        have H := HA.out
                        clear HA
                        simp only [spec_Loose.j2] at H
                        have HC50 := Aside0.mk H
                        clear H
                        go_upto_region 10 with (fail)
                        go_cut [69] (fun v69 wc => ∃ (kq : Nat) (x69_49 : Bool), v69 = .bool x69_49 ∧ Aside0 (spec_Loose.j3 kq l1 x5_1 x8_5 (rdOf ByteArray.empty y329 (ji14)) x10_16 l0 (l0.length : Int) x13_1 x69_49 ((rd_T29 l0 x13_1).f0) ((rd_T29 l0 x13_1).f1) ((rd_T29 l0 x13_1).f2) = some r) ∧ Aside0 (kq ≤ kj16) ∧ Aside0 (wc.heap[gb327]? = some (.cells #[.int .i64 ((rd_T29 l0 x13_1).f0), (.slice A326_1 ((rd_T29 l0 x13_1).f1).length c326_1), .bool ((rd_T29 l0 x13_1).f2)] 29 (0, 0))) ∧ Aside0 (Below w.heap.size w wc))
                        case first =>
                          have H := HC50.out
                          clear HC50
                          replace H := Option.bind_eq_some_iff.mp H
                          obtain ⟨t339, A510, H⟩ := H
                          replace H : (if t339 = true then (spec_Loose.j3 kj16 l1 x5_1 x8_5 (rdOf ByteArray.empty y329 (ji14)) x10_16 l0 (l0.length : Int) x13_1 ((((Int.tdiv x8_5 8) % 256) % 2) == 1) ((rd_T29 l0 x13_1).f0) ((rd_T29 l0 x13_1).f1) ((rd_T29 l0 x13_1).f2)) else (spec_Loose.j3 kj16 l1 x5_1 x8_5 (rdOf ByteArray.empty y329 (ji14)) x10_16 l0 (l0.length : Int) x13_1 false ((rd_T29 l0 x13_1).f0) ((rd_T29 l0 x13_1).f1) ((rd_T29 l0 x13_1).f2))) = some r := H
                          have A51 := Aside0.mk A510
                          clear A510
                          by_cases c52 : t339 = true
                          · subst c52
                            have H1 : (spec_Loose.j3 kj16 l1 x5_1 x8_5 (rdOf ByteArray.empty y329 (ji14)) x10_16 l0 (l0.length : Int) x13_1 ((((Int.tdiv x8_5 8) % 256) % 2) == 1) ((rd_T29 l0 x13_1).f0) ((rd_T29 l0 x13_1).f1) ((rd_T29 l0 x13_1).f2)) = some r := by rw [if_pos rfl] at H; exact H
                            clear H
                            have H := H1
                            clear H1
                            have H' := Aside0.mk H
                            clear H
                            have hcz53_0 : wc.cell? ⟨gb327, 0, none⟩ = some (.int .i64 ((rd_T29 l0 x13_1).f0)) := (blk_cell BK327.out 0).trans rfl
                            have hcz53_1 : wc.cell? ⟨gb327, 1, none⟩ = some (.slice A326_1 ((rd_T29 l0 x13_1).f1).length c326_1) := (blk_cell BK327.out 1).trans rfl
                            have hcz53_2 : wc.cell? ⟨gb327, 2, none⟩ = some (.bool ((rd_T29 l0 x13_1).f2)) := (blk_cell BK327.out 2).trans rfl
                            have hfz53_0 := blk_frozen BK327.out 0
                            have hfz53_1 := blk_frozen BK327.out 1
                            have hfz53_2 := blk_frozen BK327.out 2
                            go_wp2_with (first | ((with_reducible refine gate_callee (f := 16) rfl ?_); refine goesL_ (some 63) rfl rfl Tryd.func16 (by kernel_rfl) rfl #[.int .i64 ((rd_T29 l0 x13_1).f0)] rfl (by (try simp only [List.map_toArray, List.map_cons, List.map_nil]); first | done | rfl | (simp only [List.length_drop, List.length_take]; rfl)) ?_; (with_reducible refine (spec_blocked.calls ((rd_T29 l0 x13_1).f0) true _ A51.out).mono ?_); rintro e w' ⟨rfl, ⟨nd, rfl⟩⟩; refine ⟨_, rfl, ?_⟩))
                            go_meet
                            case rel => exact ⟨_, (((((Int.tdiv x8_5 8) % 256) % 2) == 1)), (by first | rfl | (simp; done) | (simp [*]; done)), H', ⟨by have := HK1.out; have := HJ5.out; have := HJ16.out; first | omega | exact Nat.le_refl _⟩, ⟨by (with_reducible repeat (first | refine blk_drewN ?_ _ | refine blk_drew ?_ | refine blk_alloc ?_ _)); exact BK327.out⟩, ⟨by repeat (first | (with_reducible first | exact HB.out | apply below_alloc | apply pw_below_drewN | apply below_drew1 | refine below_set ?_ GE327.out) | exact HB.out)⟩⟩
                          · replace c52 := Bool.eq_false_iff.mpr c52
                            subst c52
                            have H1 : (spec_Loose.j3 kj16 l1 x5_1 x8_5 (rdOf ByteArray.empty y329 (ji14)) x10_16 l0 (l0.length : Int) x13_1 false ((rd_T29 l0 x13_1).f0) ((rd_T29 l0 x13_1).f1) ((rd_T29 l0 x13_1).f2)) = some r := by rw [if_neg (show ¬ (false = true) by decide)] at H; exact H
                            clear H
                            have H := H1
                            clear H1
                            have H' := Aside0.mk H
                            clear H
                            have hcz54_0 : wc.cell? ⟨gb327, 0, none⟩ = some (.int .i64 ((rd_T29 l0 x13_1).f0)) := (blk_cell BK327.out 0).trans rfl
                            have hcz54_1 : wc.cell? ⟨gb327, 1, none⟩ = some (.slice A326_1 ((rd_T29 l0 x13_1).f1).length c326_1) := (blk_cell BK327.out 1).trans rfl
                            have hcz54_2 : wc.cell? ⟨gb327, 2, none⟩ = some (.bool ((rd_T29 l0 x13_1).f2)) := (blk_cell BK327.out 2).trans rfl
                            have hfz54_0 := blk_frozen BK327.out 0
                            have hfz54_1 := blk_frozen BK327.out 1
                            have hfz54_2 := blk_frozen BK327.out 2
                            go_wp2_with (first | ((with_reducible refine gate_callee (f := 16) rfl ?_); refine goesL_ (some 63) rfl rfl Tryd.func16 (by kernel_rfl) rfl #[.int .i64 ((rd_T29 l0 x13_1).f0)] rfl (by (try simp only [List.map_toArray, List.map_cons, List.map_nil]); first | done | rfl | (simp only [List.length_drop, List.length_take]; rfl)) ?_; (with_reducible refine (spec_blocked.calls ((rd_T29 l0 x13_1).f0) false _ A51.out).mono ?_); rintro e w' ⟨rfl, ⟨nd, rfl⟩⟩; refine ⟨_, rfl, ?_⟩))
                            go_meet
                            case rel => exact ⟨_, (false), (by first | rfl | (simp; done) | (simp [*]; done)), H', ⟨by have := HK1.out; have := HJ5.out; have := HJ16.out; first | omega | exact Nat.le_refl _⟩, ⟨by (with_reducible repeat (first | refine blk_drewN ?_ _ | refine blk_drew ?_ | refine blk_alloc ?_ _)); exact BK327.out⟩, ⟨by repeat (first | (with_reducible first | exact HB.out | apply below_alloc | apply pw_below_drewN | apply below_drew1 | refine below_set ?_ GE327.out) | exact HB.out)⟩⟩
                        case rest =>
                          clear HC50
                          try clear c1
                          try clear c2
                          try clear p2
                          try clear c3
                          try clear c3b0
                          try clear p3
                          try clear q3
                          try clear hx3
                          try clear c4
                          try clear c4b0
                          try clear c5
                          try clear c5b0
                          try clear c7
                          try clear c9
                          try clear c9b0
                          try clear c9b1
                          try clear c10
                          try clear c10b0
                          try clear c10b1
                          try clear c10b2
                          try clear c12
                          try clear c12b0
                          try clear c13
                          try clear c13b0
                          try clear c14
                          try clear c15
                          try clear c15b0
                          try clear c16
                          try clear c16b0
                          try clear c22
                          try clear c22b0
                          try clear c22b1
                          try clear c23
                          try clear c23b0
                          try clear c23b1
                          try clear c29
                          try clear c29b0
                          try clear c29b1
                          try clear c32
                          try clear p32
                          try clear q32
                          try clear hx32
                          try clear p33
                          try clear q33
                          try clear hx33
                          try clear c35
                          try clear c35b0
                          try clear c35b1
                          try clear c52
                          try clear hcz25_0
                          try clear hcz25_1
                          try clear hcz25_2
                          try clear hcz27_0
                          try clear hcz27_1
                          try clear hcz27_2
                          try clear hcz31_0
                          try clear hcz31_1
                          try clear hcz31_2
                          try clear hcz33_0
                          try clear hcz33_1
                          try clear hcz33_2
                          try clear hcz37_0
                          try clear hcz37_1
                          try clear hcz37_2
                          try clear hcz39_0
                          try clear hcz39_1
                          try clear hcz39_2
                          try clear hcz42_0
                          try clear hcz42_1
                          try clear hcz42_2
                          try clear hcz44_0
                          try clear hcz44_1
                          try clear hcz44_2
                          try clear hcz47_0
                          try clear hcz47_1
                          try clear hcz47_2
                          try clear hcz53_0
                          try clear hcz53_1
                          try clear hcz53_2
                          try clear hcz54_0
                          try clear hcz54_1
                          try clear hcz54_2
                          try clear hcz8_0
                          try clear hcz8_1
                          try clear hcz8_2
                          try clear hfz25_0
                          try clear hfz25_1
                          try clear hfz25_2
                          try clear hfz27_0
                          try clear hfz27_1
                          try clear hfz27_2
                          try clear hfz31_0
                          try clear hfz31_1
                          try clear hfz31_2
                          try clear hfz33_0
                          try clear hfz33_1
                          try clear hfz33_2
                          try clear hfz37_0
                          try clear hfz37_1
                          try clear hfz37_2
                          try clear hfz39_0
                          try clear hfz39_1
                          try clear hfz39_2
                          try clear hfz42_0
                          try clear hfz42_1
                          try clear hfz42_2
                          try clear hfz44_0
                          try clear hfz44_1
                          try clear hfz44_2
                          try clear hfz47_0
                          try clear hfz47_1
                          try clear hfz47_2
                          try clear hfz53_0
                          try clear hfz53_1
                          try clear hfz53_2
                          try clear hfz54_0
                          try clear hfz54_1
                          try clear hfz54_2
                          try clear hfz8_0
                          try clear hfz8_1
                          try clear hfz8_2
                          try clear hx326_0
                          try clear hx326_1
                          try clear hx326_2
                          try clear hx328_0
                          try clear hx332_0
                          try clear p2
                          try clear p3
                          try clear p32
                          try clear p326
                          try clear p328
                          try clear p33
                          try clear p332
                          try clear q3
                          try clear q32
                          try clear q326
                          try clear q328
                          try clear q33
                          try clear q332
                          obtain ⟨kq, x69_49, rfl, HA, HJ49, BK327, HB⟩ := hcut
                          cases kq with
                          | zero => exact absurd HA.out (by simp [spec_Loose.j3])
                          | succ kj49 =>
                            have H := HA.out
                            clear HA
                            simp only [spec_Loose.j3] at H
                            by_cases c55 : x69_49 = true
                            · subst c55
                              have H1 : ((spec_Name.f ((rd_T29 l0 x13_1).f0)).bind fun t340 => (if t340.size + (rdOf ByteArray.empty y329 (ji14)).size ≤ 9223372036854775807 then (if (t340 ++ (rdOf ByteArray.empty y329 (ji14))).size + 2 ≤ 9223372036854775807 then (if ((t340 ++ (rdOf ByteArray.empty y329 (ji14))) ++ (⟨#[40, 10]⟩ : ByteArray)).size + (rdOf ByteArray.empty y329 (ji14)).size ≤ 9223372036854775807 then (if (((t340 ++ (rdOf ByteArray.empty y329 (ji14))) ++ (⟨#[40, 10]⟩ : ByteArray)) ++ (rdOf ByteArray.empty y329 (ji14))).size + x10_16.size ≤ 9223372036854775807 then (if ((((t340 ++ (rdOf ByteArray.empty y329 (ji14))) ++ (⟨#[40, 10]⟩ : ByteArray)) ++ (rdOf ByteArray.empty y329 (ji14))) ++ x10_16).size + (rdOf ByteArray.empty y329 (ji14)).size ≤ 9223372036854775807 then (if (((((t340 ++ (rdOf ByteArray.empty y329 (ji14))) ++ (⟨#[40, 10]⟩ : ByteArray)) ++ (rdOf ByteArray.empty y329 (ji14))) ++ x10_16) ++ (rdOf ByteArray.empty y329 (ji14))).size + 1 ≤ 9223372036854775807 then (if ((((((t340 ++ (rdOf ByteArray.empty y329 (ji14))) ++ (⟨#[40, 10]⟩ : ByteArray)) ++ (rdOf ByteArray.empty y329 (ji14))) ++ x10_16) ++ (rdOf ByteArray.empty y329 (ji14))) ++ (⟨#[10]⟩ : ByteArray)).size + (rdOf ByteArray.empty y329 (ji14)).size ≤ 9223372036854775807 then (if (((((((t340 ++ (rdOf ByteArray.empty y329 (ji14))) ++ (⟨#[40, 10]⟩ : ByteArray)) ++ (rdOf ByteArray.empty y329 (ji14))) ++ x10_16) ++ (rdOf ByteArray.empty y329 (ji14))) ++ (⟨#[10]⟩ : ByteArray)) ++ (rdOf ByteArray.empty y329 (ji14))).size + 2 ≤ 9223372036854775807 then (if x5_1.size + ((((((((t340 ++ (rdOf ByteArray.empty y329 (ji14))) ++ (⟨#[40, 10]⟩ : ByteArray)) ++ (rdOf ByteArray.empty y329 (ji14))) ++ x10_16) ++ (rdOf ByteArray.empty y329 (ji14))) ++ (⟨#[10]⟩ : ByteArray)) ++ (rdOf ByteArray.empty y329 (ji14))) ++ (⟨#[41, 10]⟩ : ByteArray)).size ≤ 9223372036854775807 then (if (((Int.tdiv x8_5 16) % 256) % 2) = 1 then (if 1 + (rdOf ByteArray.empty y329 (ji14)).size ≤ 9223372036854775807 then (if ((⟨#[10]⟩ : ByteArray) ++ (rdOf ByteArray.empty y329 (ji14))).size + 1 ≤ 9223372036854775807 then (if (x5_1 ++ ((((((((t340 ++ (rdOf ByteArray.empty y329 (ji14))) ++ (⟨#[40, 10]⟩ : ByteArray)) ++ (rdOf ByteArray.empty y329 (ji14))) ++ x10_16) ++ (rdOf ByteArray.empty y329 (ji14))) ++ (⟨#[10]⟩ : ByteArray)) ++ (rdOf ByteArray.empty y329 (ji14))) ++ (⟨#[41, 10]⟩ : ByteArray))).size + (((⟨#[10]⟩ : ByteArray) ++ (rdOf ByteArray.empty y329 (ji14))) ++ (⟨#[10]⟩ : ByteArray)).size ≤ 9223372036854775807 then (spec_Loose.l0 kj49 l1 ((x5_1 ++ ((((((((t340 ++ (rdOf ByteArray.empty y329 (ji14))) ++ (⟨#[40, 10]⟩ : ByteArray)) ++ (rdOf ByteArray.empty y329 (ji14))) ++ x10_16) ++ (rdOf ByteArray.empty y329 (ji14))) ++ (⟨#[10]⟩ : ByteArray)) ++ (rdOf ByteArray.empty y329 (ji14))) ++ (⟨#[41, 10]⟩ : ByteArray))) ++ (((⟨#[10]⟩ : ByteArray) ++ (rdOf ByteArray.empty y329 (ji14))) ++ (⟨#[10]⟩ : ByteArray))) l0 (l0.length : Int) (wrap64 (x13_1 + 1))) else (none)) else (none)) else (none)) else (spec_Loose.l0 kj49 l1 (x5_1 ++ ((((((((t340 ++ (rdOf ByteArray.empty y329 (ji14))) ++ (⟨#[40, 10]⟩ : ByteArray)) ++ (rdOf ByteArray.empty y329 (ji14))) ++ x10_16) ++ (rdOf ByteArray.empty y329 (ji14))) ++ (⟨#[10]⟩ : ByteArray)) ++ (rdOf ByteArray.empty y329 (ji14))) ++ (⟨#[41, 10]⟩ : ByteArray))) l0 (l0.length : Int) (wrap64 (x13_1 + 1)))) else (none)) else (none)) else (none)) else (none)) else (none)) else (none)) else (none)) else (none)) else (none))) = some r := by rw [if_pos rfl] at H; exact H
                              clear H
                              have H := H1
                              clear H1
                              replace H := Option.bind_eq_some_iff.mp H
                              obtain ⟨t340, A560, H⟩ := H
                              replace H : (if t340.size + (rdOf ByteArray.empty y329 (ji14)).size ≤ 9223372036854775807 then (if (t340 ++ (rdOf ByteArray.empty y329 (ji14))).size + 2 ≤ 9223372036854775807 then (if ((t340 ++ (rdOf ByteArray.empty y329 (ji14))) ++ (⟨#[40, 10]⟩ : ByteArray)).size + (rdOf ByteArray.empty y329 (ji14)).size ≤ 9223372036854775807 then (if (((t340 ++ (rdOf ByteArray.empty y329 (ji14))) ++ (⟨#[40, 10]⟩ : ByteArray)) ++ (rdOf ByteArray.empty y329 (ji14))).size + x10_16.size ≤ 9223372036854775807 then (if ((((t340 ++ (rdOf ByteArray.empty y329 (ji14))) ++ (⟨#[40, 10]⟩ : ByteArray)) ++ (rdOf ByteArray.empty y329 (ji14))) ++ x10_16).size + (rdOf ByteArray.empty y329 (ji14)).size ≤ 9223372036854775807 then (if (((((t340 ++ (rdOf ByteArray.empty y329 (ji14))) ++ (⟨#[40, 10]⟩ : ByteArray)) ++ (rdOf ByteArray.empty y329 (ji14))) ++ x10_16) ++ (rdOf ByteArray.empty y329 (ji14))).size + 1 ≤ 9223372036854775807 then (if ((((((t340 ++ (rdOf ByteArray.empty y329 (ji14))) ++ (⟨#[40, 10]⟩ : ByteArray)) ++ (rdOf ByteArray.empty y329 (ji14))) ++ x10_16) ++ (rdOf ByteArray.empty y329 (ji14))) ++ (⟨#[10]⟩ : ByteArray)).size + (rdOf ByteArray.empty y329 (ji14)).size ≤ 9223372036854775807 then (if (((((((t340 ++ (rdOf ByteArray.empty y329 (ji14))) ++ (⟨#[40, 10]⟩ : ByteArray)) ++ (rdOf ByteArray.empty y329 (ji14))) ++ x10_16) ++ (rdOf ByteArray.empty y329 (ji14))) ++ (⟨#[10]⟩ : ByteArray)) ++ (rdOf ByteArray.empty y329 (ji14))).size + 2 ≤ 9223372036854775807 then (if x5_1.size + ((((((((t340 ++ (rdOf ByteArray.empty y329 (ji14))) ++ (⟨#[40, 10]⟩ : ByteArray)) ++ (rdOf ByteArray.empty y329 (ji14))) ++ x10_16) ++ (rdOf ByteArray.empty y329 (ji14))) ++ (⟨#[10]⟩ : ByteArray)) ++ (rdOf ByteArray.empty y329 (ji14))) ++ (⟨#[41, 10]⟩ : ByteArray)).size ≤ 9223372036854775807 then (if (((Int.tdiv x8_5 16) % 256) % 2) = 1 then (if 1 + (rdOf ByteArray.empty y329 (ji14)).size ≤ 9223372036854775807 then (if ((⟨#[10]⟩ : ByteArray) ++ (rdOf ByteArray.empty y329 (ji14))).size + 1 ≤ 9223372036854775807 then (if (x5_1 ++ ((((((((t340 ++ (rdOf ByteArray.empty y329 (ji14))) ++ (⟨#[40, 10]⟩ : ByteArray)) ++ (rdOf ByteArray.empty y329 (ji14))) ++ x10_16) ++ (rdOf ByteArray.empty y329 (ji14))) ++ (⟨#[10]⟩ : ByteArray)) ++ (rdOf ByteArray.empty y329 (ji14))) ++ (⟨#[41, 10]⟩ : ByteArray))).size + (((⟨#[10]⟩ : ByteArray) ++ (rdOf ByteArray.empty y329 (ji14))) ++ (⟨#[10]⟩ : ByteArray)).size ≤ 9223372036854775807 then (spec_Loose.l0 kj49 l1 ((x5_1 ++ ((((((((t340 ++ (rdOf ByteArray.empty y329 (ji14))) ++ (⟨#[40, 10]⟩ : ByteArray)) ++ (rdOf ByteArray.empty y329 (ji14))) ++ x10_16) ++ (rdOf ByteArray.empty y329 (ji14))) ++ (⟨#[10]⟩ : ByteArray)) ++ (rdOf ByteArray.empty y329 (ji14))) ++ (⟨#[41, 10]⟩ : ByteArray))) ++ (((⟨#[10]⟩ : ByteArray) ++ (rdOf ByteArray.empty y329 (ji14))) ++ (⟨#[10]⟩ : ByteArray))) l0 (l0.length : Int) (wrap64 (x13_1 + 1))) else (none)) else (none)) else (none)) else (spec_Loose.l0 kj49 l1 (x5_1 ++ ((((((((t340 ++ (rdOf ByteArray.empty y329 (ji14))) ++ (⟨#[40, 10]⟩ : ByteArray)) ++ (rdOf ByteArray.empty y329 (ji14))) ++ x10_16) ++ (rdOf ByteArray.empty y329 (ji14))) ++ (⟨#[10]⟩ : ByteArray)) ++ (rdOf ByteArray.empty y329 (ji14))) ++ (⟨#[41, 10]⟩ : ByteArray))) l0 (l0.length : Int) (wrap64 (x13_1 + 1)))) else (none)) else (none)) else (none)) else (none)) else (none)) else (none)) else (none)) else (none)) else (none)) = some r := H
                              have A56 := Aside0.mk A560
                              clear A560
                              by_cases c57 : t340.size + (rdOf ByteArray.empty y329 (ji14)).size ≤ 9223372036854775807
                              · rw [if_pos c57] at H
                                have c57b0 := eq_true c57
                                have c57b1 : decide (t340.size + (rdOf ByteArray.empty y329 (ji14)).size ≤ 9223372036854775807) = true := decide_eq_true c57
                                try have c57b2 : (9223372036854775807 < t340.size + (rdOf ByteArray.empty y329 (ji14)).size) = False := eq_false (Nat.not_lt.2 c57)
                                try have c57b3 := c57b2
                                try simp only [ByteArray.size_append, own_sz10_0, own_sz10_1, own_sz10_2, own_sz10_3, own_sz10_4, own_sz10_5, own_sz10_6, own_sz10_7] at c57b3
                                by_cases c58 : (t340 ++ (rdOf ByteArray.empty y329 (ji14))).size + 2 ≤ 9223372036854775807
                                · rw [if_pos c58] at H
                                  have c58b0 := eq_true c58
                                  have c58b1 : decide ((t340 ++ (rdOf ByteArray.empty y329 (ji14))).size + 2 ≤ 9223372036854775807) = true := decide_eq_true c58
                                  try have c58b2 : (9223372036854775807 < (t340 ++ (rdOf ByteArray.empty y329 (ji14))).size + 2) = False := eq_false (Nat.not_lt.2 c58)
                                  try have c58b3 := c58b2
                                  try simp only [ByteArray.size_append, own_sz10_0, own_sz10_1, own_sz10_2, own_sz10_3, own_sz10_4, own_sz10_5, own_sz10_6, own_sz10_7] at c58b3
                                  by_cases c59 : ((t340 ++ (rdOf ByteArray.empty y329 (ji14))) ++ (⟨#[40, 10]⟩ : ByteArray)).size + (rdOf ByteArray.empty y329 (ji14)).size ≤ 9223372036854775807
                                  · rw [if_pos c59] at H
                                    have c59b0 := eq_true c59
                                    have c59b1 : decide (((t340 ++ (rdOf ByteArray.empty y329 (ji14))) ++ (⟨#[40, 10]⟩ : ByteArray)).size + (rdOf ByteArray.empty y329 (ji14)).size ≤ 9223372036854775807) = true := decide_eq_true c59
                                    try have c59b2 : (9223372036854775807 < ((t340 ++ (rdOf ByteArray.empty y329 (ji14))) ++ (⟨#[40, 10]⟩ : ByteArray)).size + (rdOf ByteArray.empty y329 (ji14)).size) = False := eq_false (Nat.not_lt.2 c59)
                                    try have c59b3 := c59b2
                                    try simp only [ByteArray.size_append, own_sz10_0, own_sz10_1, own_sz10_2, own_sz10_3, own_sz10_4, own_sz10_5, own_sz10_6, own_sz10_7] at c59b3
                                    by_cases c60 : (((t340 ++ (rdOf ByteArray.empty y329 (ji14))) ++ (⟨#[40, 10]⟩ : ByteArray)) ++ (rdOf ByteArray.empty y329 (ji14))).size + x10_16.size ≤ 9223372036854775807
                                    · rw [if_pos c60] at H
                                      have c60b0 := eq_true c60
                                      have c60b1 : decide ((((t340 ++ (rdOf ByteArray.empty y329 (ji14))) ++ (⟨#[40, 10]⟩ : ByteArray)) ++ (rdOf ByteArray.empty y329 (ji14))).size + x10_16.size ≤ 9223372036854775807) = true := decide_eq_true c60
                                      try have c60b2 : (9223372036854775807 < (((t340 ++ (rdOf ByteArray.empty y329 (ji14))) ++ (⟨#[40, 10]⟩ : ByteArray)) ++ (rdOf ByteArray.empty y329 (ji14))).size + x10_16.size) = False := eq_false (Nat.not_lt.2 c60)
                                      try have c60b3 := c60b2
                                      try simp only [ByteArray.size_append, own_sz10_0, own_sz10_1, own_sz10_2, own_sz10_3, own_sz10_4, own_sz10_5, own_sz10_6, own_sz10_7] at c60b3
                                      by_cases c61 : ((((t340 ++ (rdOf ByteArray.empty y329 (ji14))) ++ (⟨#[40, 10]⟩ : ByteArray)) ++ (rdOf ByteArray.empty y329 (ji14))) ++ x10_16).size + (rdOf ByteArray.empty y329 (ji14)).size ≤ 9223372036854775807
                                      · rw [if_pos c61] at H
                                        have c61b0 := eq_true c61
                                        have c61b1 : decide (((((t340 ++ (rdOf ByteArray.empty y329 (ji14))) ++ (⟨#[40, 10]⟩ : ByteArray)) ++ (rdOf ByteArray.empty y329 (ji14))) ++ x10_16).size + (rdOf ByteArray.empty y329 (ji14)).size ≤ 9223372036854775807) = true := decide_eq_true c61
                                        try have c61b2 : (9223372036854775807 < ((((t340 ++ (rdOf ByteArray.empty y329 (ji14))) ++ (⟨#[40, 10]⟩ : ByteArray)) ++ (rdOf ByteArray.empty y329 (ji14))) ++ x10_16).size + (rdOf ByteArray.empty y329 (ji14)).size) = False := eq_false (Nat.not_lt.2 c61)
                                        try have c61b3 := c61b2
                                        try simp only [ByteArray.size_append, own_sz10_0, own_sz10_1, own_sz10_2, own_sz10_3, own_sz10_4, own_sz10_5, own_sz10_6, own_sz10_7] at c61b3
                                        by_cases c62 : (((((t340 ++ (rdOf ByteArray.empty y329 (ji14))) ++ (⟨#[40, 10]⟩ : ByteArray)) ++ (rdOf ByteArray.empty y329 (ji14))) ++ x10_16) ++ (rdOf ByteArray.empty y329 (ji14))).size + 1 ≤ 9223372036854775807
                                        · rw [if_pos c62] at H
                                          have c62b0 := eq_true c62
                                          have c62b1 : decide ((((((t340 ++ (rdOf ByteArray.empty y329 (ji14))) ++ (⟨#[40, 10]⟩ : ByteArray)) ++ (rdOf ByteArray.empty y329 (ji14))) ++ x10_16) ++ (rdOf ByteArray.empty y329 (ji14))).size + 1 ≤ 9223372036854775807) = true := decide_eq_true c62
                                          try have c62b2 : (9223372036854775807 < (((((t340 ++ (rdOf ByteArray.empty y329 (ji14))) ++ (⟨#[40, 10]⟩ : ByteArray)) ++ (rdOf ByteArray.empty y329 (ji14))) ++ x10_16) ++ (rdOf ByteArray.empty y329 (ji14))).size + 1) = False := eq_false (Nat.not_lt.2 c62)
                                          try have c62b3 := c62b2
                                          try simp only [ByteArray.size_append, own_sz10_0, own_sz10_1, own_sz10_2, own_sz10_3, own_sz10_4, own_sz10_5, own_sz10_6, own_sz10_7] at c62b3
                                          by_cases c63 : ((((((t340 ++ (rdOf ByteArray.empty y329 (ji14))) ++ (⟨#[40, 10]⟩ : ByteArray)) ++ (rdOf ByteArray.empty y329 (ji14))) ++ x10_16) ++ (rdOf ByteArray.empty y329 (ji14))) ++ (⟨#[10]⟩ : ByteArray)).size + (rdOf ByteArray.empty y329 (ji14)).size ≤ 9223372036854775807
                                          · rw [if_pos c63] at H
                                            have c63b0 := eq_true c63
                                            have c63b1 : decide (((((((t340 ++ (rdOf ByteArray.empty y329 (ji14))) ++ (⟨#[40, 10]⟩ : ByteArray)) ++ (rdOf ByteArray.empty y329 (ji14))) ++ x10_16) ++ (rdOf ByteArray.empty y329 (ji14))) ++ (⟨#[10]⟩ : ByteArray)).size + (rdOf ByteArray.empty y329 (ji14)).size ≤ 9223372036854775807) = true := decide_eq_true c63
                                            try have c63b2 : (9223372036854775807 < ((((((t340 ++ (rdOf ByteArray.empty y329 (ji14))) ++ (⟨#[40, 10]⟩ : ByteArray)) ++ (rdOf ByteArray.empty y329 (ji14))) ++ x10_16) ++ (rdOf ByteArray.empty y329 (ji14))) ++ (⟨#[10]⟩ : ByteArray)).size + (rdOf ByteArray.empty y329 (ji14)).size) = False := eq_false (Nat.not_lt.2 c63)
                                            try have c63b3 := c63b2
                                            try simp only [ByteArray.size_append, own_sz10_0, own_sz10_1, own_sz10_2, own_sz10_3, own_sz10_4, own_sz10_5, own_sz10_6, own_sz10_7] at c63b3
                                            by_cases c64 : (((((((t340 ++ (rdOf ByteArray.empty y329 (ji14))) ++ (⟨#[40, 10]⟩ : ByteArray)) ++ (rdOf ByteArray.empty y329 (ji14))) ++ x10_16) ++ (rdOf ByteArray.empty y329 (ji14))) ++ (⟨#[10]⟩ : ByteArray)) ++ (rdOf ByteArray.empty y329 (ji14))).size + 2 ≤ 9223372036854775807
                                            · rw [if_pos c64] at H
                                              have c64b0 := eq_true c64
                                              have c64b1 : decide ((((((((t340 ++ (rdOf ByteArray.empty y329 (ji14))) ++ (⟨#[40, 10]⟩ : ByteArray)) ++ (rdOf ByteArray.empty y329 (ji14))) ++ x10_16) ++ (rdOf ByteArray.empty y329 (ji14))) ++ (⟨#[10]⟩ : ByteArray)) ++ (rdOf ByteArray.empty y329 (ji14))).size + 2 ≤ 9223372036854775807) = true := decide_eq_true c64
                                              try have c64b2 : (9223372036854775807 < (((((((t340 ++ (rdOf ByteArray.empty y329 (ji14))) ++ (⟨#[40, 10]⟩ : ByteArray)) ++ (rdOf ByteArray.empty y329 (ji14))) ++ x10_16) ++ (rdOf ByteArray.empty y329 (ji14))) ++ (⟨#[10]⟩ : ByteArray)) ++ (rdOf ByteArray.empty y329 (ji14))).size + 2) = False := eq_false (Nat.not_lt.2 c64)
                                              try have c64b3 := c64b2
                                              try simp only [ByteArray.size_append, own_sz10_0, own_sz10_1, own_sz10_2, own_sz10_3, own_sz10_4, own_sz10_5, own_sz10_6, own_sz10_7] at c64b3
                                              by_cases c65 : x5_1.size + ((((((((t340 ++ (rdOf ByteArray.empty y329 (ji14))) ++ (⟨#[40, 10]⟩ : ByteArray)) ++ (rdOf ByteArray.empty y329 (ji14))) ++ x10_16) ++ (rdOf ByteArray.empty y329 (ji14))) ++ (⟨#[10]⟩ : ByteArray)) ++ (rdOf ByteArray.empty y329 (ji14))) ++ (⟨#[41, 10]⟩ : ByteArray)).size ≤ 9223372036854775807
                                              · rw [if_pos c65] at H
                                                have c65b0 := eq_true c65
                                                have c65b1 : decide (x5_1.size + ((((((((t340 ++ (rdOf ByteArray.empty y329 (ji14))) ++ (⟨#[40, 10]⟩ : ByteArray)) ++ (rdOf ByteArray.empty y329 (ji14))) ++ x10_16) ++ (rdOf ByteArray.empty y329 (ji14))) ++ (⟨#[10]⟩ : ByteArray)) ++ (rdOf ByteArray.empty y329 (ji14))) ++ (⟨#[41, 10]⟩ : ByteArray)).size ≤ 9223372036854775807) = true := decide_eq_true c65
                                                try have c65b2 : (9223372036854775807 < x5_1.size + ((((((((t340 ++ (rdOf ByteArray.empty y329 (ji14))) ++ (⟨#[40, 10]⟩ : ByteArray)) ++ (rdOf ByteArray.empty y329 (ji14))) ++ x10_16) ++ (rdOf ByteArray.empty y329 (ji14))) ++ (⟨#[10]⟩ : ByteArray)) ++ (rdOf ByteArray.empty y329 (ji14))) ++ (⟨#[41, 10]⟩ : ByteArray)).size) = False := eq_false (Nat.not_lt.2 c65)
                                                try have c65b3 := c65b2
                                                try simp only [ByteArray.size_append, own_sz10_0, own_sz10_1, own_sz10_2, own_sz10_3, own_sz10_4, own_sz10_5, own_sz10_6, own_sz10_7] at c65b3
                                                by_cases c66 : (((Int.tdiv x8_5 16) % 256) % 2) = 1
                                                · rw [if_pos c66] at H
                                                  have c66b0 : ((((Int.tdiv x8_5 16) % 256) % 2) == 1) = true := beq_iff_eq.mpr c66
                                                  have c66n0 : (Int.tdiv x8_5 16 % 2 == 1) = true := by have h_ := c66b0; rwa [own_e256] at h_
                                                  have c66b1 : ((((Int.tdiv x8_5 16) % 256) % 2) != 1) = false := bne_eq_false_iff_eq.mpr c66
                                                  clear c66
                                                  by_cases c67 : 1 + (rdOf ByteArray.empty y329 (ji14)).size ≤ 9223372036854775807
                                                  · rw [if_pos c67] at H
                                                    have c67b0 := eq_true c67
                                                    have c67b1 : decide (1 + (rdOf ByteArray.empty y329 (ji14)).size ≤ 9223372036854775807) = true := decide_eq_true c67
                                                    try have c67b2 : (9223372036854775807 < 1 + (rdOf ByteArray.empty y329 (ji14)).size) = False := eq_false (Nat.not_lt.2 c67)
                                                    try have c67b3 := c67b2
                                                    try simp only [ByteArray.size_append, own_sz10_0, own_sz10_1, own_sz10_2, own_sz10_3, own_sz10_4, own_sz10_5, own_sz10_6, own_sz10_7] at c67b3
                                                    by_cases c68 : ((⟨#[10]⟩ : ByteArray) ++ (rdOf ByteArray.empty y329 (ji14))).size + 1 ≤ 9223372036854775807
                                                    · rw [if_pos c68] at H
                                                      have c68b0 := eq_true c68
                                                      have c68b1 : decide (((⟨#[10]⟩ : ByteArray) ++ (rdOf ByteArray.empty y329 (ji14))).size + 1 ≤ 9223372036854775807) = true := decide_eq_true c68
                                                      try have c68b2 : (9223372036854775807 < ((⟨#[10]⟩ : ByteArray) ++ (rdOf ByteArray.empty y329 (ji14))).size + 1) = False := eq_false (Nat.not_lt.2 c68)
                                                      try have c68b3 := c68b2
                                                      try simp only [ByteArray.size_append, own_sz10_0, own_sz10_1, own_sz10_2, own_sz10_3, own_sz10_4, own_sz10_5, own_sz10_6, own_sz10_7] at c68b3
                                                      by_cases c69 : (x5_1 ++ ((((((((t340 ++ (rdOf ByteArray.empty y329 (ji14))) ++ (⟨#[40, 10]⟩ : ByteArray)) ++ (rdOf ByteArray.empty y329 (ji14))) ++ x10_16) ++ (rdOf ByteArray.empty y329 (ji14))) ++ (⟨#[10]⟩ : ByteArray)) ++ (rdOf ByteArray.empty y329 (ji14))) ++ (⟨#[41, 10]⟩ : ByteArray))).size + (((⟨#[10]⟩ : ByteArray) ++ (rdOf ByteArray.empty y329 (ji14))) ++ (⟨#[10]⟩ : ByteArray)).size ≤ 9223372036854775807
                                                      · rw [if_pos c69] at H
                                                        have c69b0 := eq_true c69
                                                        have c69b1 : decide ((x5_1 ++ ((((((((t340 ++ (rdOf ByteArray.empty y329 (ji14))) ++ (⟨#[40, 10]⟩ : ByteArray)) ++ (rdOf ByteArray.empty y329 (ji14))) ++ x10_16) ++ (rdOf ByteArray.empty y329 (ji14))) ++ (⟨#[10]⟩ : ByteArray)) ++ (rdOf ByteArray.empty y329 (ji14))) ++ (⟨#[41, 10]⟩ : ByteArray))).size + (((⟨#[10]⟩ : ByteArray) ++ (rdOf ByteArray.empty y329 (ji14))) ++ (⟨#[10]⟩ : ByteArray)).size ≤ 9223372036854775807) = true := decide_eq_true c69
                                                        try have c69b2 : (9223372036854775807 < (x5_1 ++ ((((((((t340 ++ (rdOf ByteArray.empty y329 (ji14))) ++ (⟨#[40, 10]⟩ : ByteArray)) ++ (rdOf ByteArray.empty y329 (ji14))) ++ x10_16) ++ (rdOf ByteArray.empty y329 (ji14))) ++ (⟨#[10]⟩ : ByteArray)) ++ (rdOf ByteArray.empty y329 (ji14))) ++ (⟨#[41, 10]⟩ : ByteArray))).size + (((⟨#[10]⟩ : ByteArray) ++ (rdOf ByteArray.empty y329 (ji14))) ++ (⟨#[10]⟩ : ByteArray)).size) = False := eq_false (Nat.not_lt.2 c69)
                                                        try have c69b3 := c69b2
                                                        try simp only [ByteArray.size_append, own_sz10_0, own_sz10_1, own_sz10_2, own_sz10_3, own_sz10_4, own_sz10_5, own_sz10_6, own_sz10_7] at c69b3
                                                        have H' := Aside0.mk H
                                                        clear H
                                                        have hcz70_0 : wc.cell? ⟨gb327, 0, none⟩ = some (.int .i64 ((rd_T29 l0 x13_1).f0)) := (blk_cell BK327.out 0).trans rfl
                                                        have hcz70_1 : wc.cell? ⟨gb327, 1, none⟩ = some (.slice A326_1 ((rd_T29 l0 x13_1).f1).length c326_1) := (blk_cell BK327.out 1).trans rfl
                                                        have hcz70_2 : wc.cell? ⟨gb327, 2, none⟩ = some (.bool ((rd_T29 l0 x13_1).f2)) := (blk_cell BK327.out 2).trans rfl
                                                        have hfz70_0 := blk_frozen BK327.out 0
                                                        have hfz70_1 := blk_frozen BK327.out 1
                                                        have hfz70_2 := blk_frozen BK327.out 2
                                                        go_wp2_with (first | ((with_reducible refine gate_callee (f := 17) rfl ?_); refine goesL_ (some 73) rfl rfl Tryd.func17 (by kernel_rfl) rfl #[.int .i64 ((rd_T29 l0 x13_1).f0)] rfl (by (try simp only [List.map_toArray, List.map_cons, List.map_nil]); first | done | rfl | (simp only [List.length_drop, List.length_take]; rfl)) ?_; (with_reducible refine (spec_Name.calls ((rd_T29 l0 x13_1).f0) t340 _ A56.out).mono ?_); rintro e w71 ⟨rfl, hb⟩; refine ⟨_, rfl, ?_⟩; have n0_ := Aside0.mk (blk_below (g := gb327) (o := .cells #[.int .i64 ((rd_T29 l0 x13_1).f0), .slice A326_1 ((rd_T29 l0 x13_1).f1).length c326_1, .bool ((rd_T29 l0 x13_1).f2)] 29 (0, 0)) (by (with_reducible repeat (first | refine blk_drewN ?_ _ | refine blk_drew ?_ | refine blk_alloc ?_ _)); exact BK327.out) hb); have n1_ := Aside0.mk (below_step (by repeat (first | (with_reducible first | exact HB.out | apply below_alloc | apply pw_below_drewN | apply below_drew1 | refine below_set ?_ GE327.out) | exact HB.out)) hb); clear BK327; clear HB; have BK327 := n0_; have HB := n1_; clear n0_ n1_; (try clear hb); (try clear hb2); (try clear hk); (try clear hi)))
                                                        go_roundg kj49
                                                        case measure => have := HK1.out; have := HJ5.out; have := HJ16.out; have := HJ49.out; omega
                                                        case rel => exact ⟨((x5_1 ++ ((((((((t340 ++ (rdOf ByteArray.empty y329 (ji14))) ++ (⟨#[40, 10]⟩ : ByteArray)) ++ (rdOf ByteArray.empty y329 (ji14))) ++ x10_16) ++ (rdOf ByteArray.empty y329 (ji14))) ++ (⟨#[10]⟩ : ByteArray)) ++ (rdOf ByteArray.empty y329 (ji14))) ++ (⟨#[41, 10]⟩ : ByteArray))) ++ (((⟨#[10]⟩ : ByteArray) ++ (rdOf ByteArray.empty y329 (ji14))) ++ (⟨#[10]⟩ : ByteArray))), (wrap64 (x13_1 + 1)), (by first | rfl | (simp; done) | (simp only [← hji14] <;> (first | rfl | simp)) | (simp [*]; done)), (by first | rfl | (simp; done) | (simp [*]; done)), H', ⟨by have := HK1.out; have := HJ5.out; have := HJ16.out; have := HJ49.out; omega⟩, ⟨by repeat (first | (with_reducible first | exact HB.out | apply below_alloc | apply pw_below_drewN | apply below_drew1 | refine below_set ?_ GE327.out) | exact HB.out)⟩⟩
                                                      · rw [if_neg c69] at H
                                                        exact absurd H (by simp)
                                                    · rw [if_neg c68] at H
                                                      exact absurd H (by simp)
                                                  · rw [if_neg c67] at H
                                                    exact absurd H (by simp)
                                                · rw [if_neg c66] at H
                                                  have c66b0 : ((((Int.tdiv x8_5 16) % 256) % 2) == 1) = false := beq_eq_false_iff_ne.mpr c66
                                                  have c66n0 : (Int.tdiv x8_5 16 % 2 == 1) = false := by have h_ := c66b0; rwa [own_e256] at h_
                                                  have c66b1 : ((((Int.tdiv x8_5 16) % 256) % 2) != 1) = true := bne_iff_ne.mpr c66
                                                  have H' := Aside0.mk H
                                                  clear H
                                                  have hcz72_0 : wc.cell? ⟨gb327, 0, none⟩ = some (.int .i64 ((rd_T29 l0 x13_1).f0)) := (blk_cell BK327.out 0).trans rfl
                                                  have hcz72_1 : wc.cell? ⟨gb327, 1, none⟩ = some (.slice A326_1 ((rd_T29 l0 x13_1).f1).length c326_1) := (blk_cell BK327.out 1).trans rfl
                                                  have hcz72_2 : wc.cell? ⟨gb327, 2, none⟩ = some (.bool ((rd_T29 l0 x13_1).f2)) := (blk_cell BK327.out 2).trans rfl
                                                  have hfz72_0 := blk_frozen BK327.out 0
                                                  have hfz72_1 := blk_frozen BK327.out 1
                                                  have hfz72_2 := blk_frozen BK327.out 2
                                                  go_wp2_with (first | ((with_reducible refine gate_callee (f := 17) rfl ?_); refine goesL_ (some 73) rfl rfl Tryd.func17 (by kernel_rfl) rfl #[.int .i64 ((rd_T29 l0 x13_1).f0)] rfl (by (try simp only [List.map_toArray, List.map_cons, List.map_nil]); first | done | rfl | (simp only [List.length_drop, List.length_take]; rfl)) ?_; (with_reducible refine (spec_Name.calls ((rd_T29 l0 x13_1).f0) t340 _ A56.out).mono ?_); rintro e w73 ⟨rfl, hb⟩; refine ⟨_, rfl, ?_⟩; have n0_ := Aside0.mk (blk_below (g := gb327) (o := .cells #[.int .i64 ((rd_T29 l0 x13_1).f0), .slice A326_1 ((rd_T29 l0 x13_1).f1).length c326_1, .bool ((rd_T29 l0 x13_1).f2)] 29 (0, 0)) (by (with_reducible repeat (first | refine blk_drewN ?_ _ | refine blk_drew ?_ | refine blk_alloc ?_ _)); exact BK327.out) hb); have n1_ := Aside0.mk (below_step (by repeat (first | (with_reducible first | exact HB.out | apply below_alloc | apply pw_below_drewN | apply below_drew1 | refine below_set ?_ GE327.out) | exact HB.out)) hb); clear BK327; clear HB; have BK327 := n0_; have HB := n1_; clear n0_ n1_; (try clear hb); (try clear hb2); (try clear hk); (try clear hi)))
                                                  go_roundg kj49
                                                  case measure => have := HK1.out; have := HJ5.out; have := HJ16.out; have := HJ49.out; omega
                                                  case rel => exact ⟨(x5_1 ++ ((((((((t340 ++ (rdOf ByteArray.empty y329 (ji14))) ++ (⟨#[40, 10]⟩ : ByteArray)) ++ (rdOf ByteArray.empty y329 (ji14))) ++ x10_16) ++ (rdOf ByteArray.empty y329 (ji14))) ++ (⟨#[10]⟩ : ByteArray)) ++ (rdOf ByteArray.empty y329 (ji14))) ++ (⟨#[41, 10]⟩ : ByteArray))), (wrap64 (x13_1 + 1)), (by first | rfl | (simp; done) | (simp only [← hji14] <;> (first | rfl | simp)) | (simp [*]; done)), (by first | rfl | (simp; done) | (simp [*]; done)), H', ⟨by have := HK1.out; have := HJ5.out; have := HJ16.out; have := HJ49.out; omega⟩, ⟨by repeat (first | (with_reducible first | exact HB.out | apply below_alloc | apply pw_below_drewN | apply below_drew1 | refine below_set ?_ GE327.out) | exact HB.out)⟩⟩
                                              · rw [if_neg c65] at H
                                                exact absurd H (by simp)
                                            · rw [if_neg c64] at H
                                              exact absurd H (by simp)
                                          · rw [if_neg c63] at H
                                            exact absurd H (by simp)
                                        · rw [if_neg c62] at H
                                          exact absurd H (by simp)
                                      · rw [if_neg c61] at H
                                        exact absurd H (by simp)
                                    · rw [if_neg c60] at H
                                      exact absurd H (by simp)
                                  · rw [if_neg c59] at H
                                    exact absurd H (by simp)
                                · rw [if_neg c58] at H
                                  exact absurd H (by simp)
                              · rw [if_neg c57] at H
                                exact absurd H (by simp)
                            · replace c55 := Bool.eq_false_iff.mpr c55
                              subst c55
                              have H1 : ((spec_Name.f ((rd_T29 l0 x13_1).f0)).bind fun t341 => (if (rdOf ByteArray.empty y329 (ji14)).size + t341.size ≤ 9223372036854775807 then (if ((rdOf ByteArray.empty y329 (ji14)) ++ t341).size + (rdOf ByteArray.empty y329 (ji14)).size ≤ 9223372036854775807 then (if (((rdOf ByteArray.empty y329 (ji14)) ++ t341) ++ (rdOf ByteArray.empty y329 (ji14))).size + x10_16.size ≤ 9223372036854775807 then (if ((((rdOf ByteArray.empty y329 (ji14)) ++ t341) ++ (rdOf ByteArray.empty y329 (ji14))) ++ x10_16).size + (rdOf ByteArray.empty y329 (ji14)).size ≤ 9223372036854775807 then (if (((((rdOf ByteArray.empty y329 (ji14)) ++ t341) ++ (rdOf ByteArray.empty y329 (ji14))) ++ x10_16) ++ (rdOf ByteArray.empty y329 (ji14))).size + 1 ≤ 9223372036854775807 then (if x5_1.size + ((((((rdOf ByteArray.empty y329 (ji14)) ++ t341) ++ (rdOf ByteArray.empty y329 (ji14))) ++ x10_16) ++ (rdOf ByteArray.empty y329 (ji14))) ++ (⟨#[10]⟩ : ByteArray)).size ≤ 9223372036854775807 then (if (((Int.tdiv x8_5 16) % 256) % 2) = 1 then (if 1 + (rdOf ByteArray.empty y329 (ji14)).size ≤ 9223372036854775807 then (if ((⟨#[10]⟩ : ByteArray) ++ (rdOf ByteArray.empty y329 (ji14))).size + 1 ≤ 9223372036854775807 then (if (x5_1 ++ ((((((rdOf ByteArray.empty y329 (ji14)) ++ t341) ++ (rdOf ByteArray.empty y329 (ji14))) ++ x10_16) ++ (rdOf ByteArray.empty y329 (ji14))) ++ (⟨#[10]⟩ : ByteArray))).size + (((⟨#[10]⟩ : ByteArray) ++ (rdOf ByteArray.empty y329 (ji14))) ++ (⟨#[10]⟩ : ByteArray)).size ≤ 9223372036854775807 then (spec_Loose.l0 kj49 l1 ((x5_1 ++ ((((((rdOf ByteArray.empty y329 (ji14)) ++ t341) ++ (rdOf ByteArray.empty y329 (ji14))) ++ x10_16) ++ (rdOf ByteArray.empty y329 (ji14))) ++ (⟨#[10]⟩ : ByteArray))) ++ (((⟨#[10]⟩ : ByteArray) ++ (rdOf ByteArray.empty y329 (ji14))) ++ (⟨#[10]⟩ : ByteArray))) l0 (l0.length : Int) (wrap64 (x13_1 + 1))) else (none)) else (none)) else (none)) else (spec_Loose.l0 kj49 l1 (x5_1 ++ ((((((rdOf ByteArray.empty y329 (ji14)) ++ t341) ++ (rdOf ByteArray.empty y329 (ji14))) ++ x10_16) ++ (rdOf ByteArray.empty y329 (ji14))) ++ (⟨#[10]⟩ : ByteArray))) l0 (l0.length : Int) (wrap64 (x13_1 + 1)))) else (none)) else (none)) else (none)) else (none)) else (none)) else (none))) = some r := by rw [if_neg (show ¬ (false = true) by decide)] at H; exact H
                              clear H
                              have H := H1
                              clear H1
                              replace H := Option.bind_eq_some_iff.mp H
                              obtain ⟨t341, A740, H⟩ := H
                              replace H : (if (rdOf ByteArray.empty y329 (ji14)).size + t341.size ≤ 9223372036854775807 then (if ((rdOf ByteArray.empty y329 (ji14)) ++ t341).size + (rdOf ByteArray.empty y329 (ji14)).size ≤ 9223372036854775807 then (if (((rdOf ByteArray.empty y329 (ji14)) ++ t341) ++ (rdOf ByteArray.empty y329 (ji14))).size + x10_16.size ≤ 9223372036854775807 then (if ((((rdOf ByteArray.empty y329 (ji14)) ++ t341) ++ (rdOf ByteArray.empty y329 (ji14))) ++ x10_16).size + (rdOf ByteArray.empty y329 (ji14)).size ≤ 9223372036854775807 then (if (((((rdOf ByteArray.empty y329 (ji14)) ++ t341) ++ (rdOf ByteArray.empty y329 (ji14))) ++ x10_16) ++ (rdOf ByteArray.empty y329 (ji14))).size + 1 ≤ 9223372036854775807 then (if x5_1.size + ((((((rdOf ByteArray.empty y329 (ji14)) ++ t341) ++ (rdOf ByteArray.empty y329 (ji14))) ++ x10_16) ++ (rdOf ByteArray.empty y329 (ji14))) ++ (⟨#[10]⟩ : ByteArray)).size ≤ 9223372036854775807 then (if (((Int.tdiv x8_5 16) % 256) % 2) = 1 then (if 1 + (rdOf ByteArray.empty y329 (ji14)).size ≤ 9223372036854775807 then (if ((⟨#[10]⟩ : ByteArray) ++ (rdOf ByteArray.empty y329 (ji14))).size + 1 ≤ 9223372036854775807 then (if (x5_1 ++ ((((((rdOf ByteArray.empty y329 (ji14)) ++ t341) ++ (rdOf ByteArray.empty y329 (ji14))) ++ x10_16) ++ (rdOf ByteArray.empty y329 (ji14))) ++ (⟨#[10]⟩ : ByteArray))).size + (((⟨#[10]⟩ : ByteArray) ++ (rdOf ByteArray.empty y329 (ji14))) ++ (⟨#[10]⟩ : ByteArray)).size ≤ 9223372036854775807 then (spec_Loose.l0 kj49 l1 ((x5_1 ++ ((((((rdOf ByteArray.empty y329 (ji14)) ++ t341) ++ (rdOf ByteArray.empty y329 (ji14))) ++ x10_16) ++ (rdOf ByteArray.empty y329 (ji14))) ++ (⟨#[10]⟩ : ByteArray))) ++ (((⟨#[10]⟩ : ByteArray) ++ (rdOf ByteArray.empty y329 (ji14))) ++ (⟨#[10]⟩ : ByteArray))) l0 (l0.length : Int) (wrap64 (x13_1 + 1))) else (none)) else (none)) else (none)) else (spec_Loose.l0 kj49 l1 (x5_1 ++ ((((((rdOf ByteArray.empty y329 (ji14)) ++ t341) ++ (rdOf ByteArray.empty y329 (ji14))) ++ x10_16) ++ (rdOf ByteArray.empty y329 (ji14))) ++ (⟨#[10]⟩ : ByteArray))) l0 (l0.length : Int) (wrap64 (x13_1 + 1)))) else (none)) else (none)) else (none)) else (none)) else (none)) else (none)) = some r := H
                              have A74 := Aside0.mk A740
                              clear A740
                              by_cases c75 : (rdOf ByteArray.empty y329 (ji14)).size + t341.size ≤ 9223372036854775807
                              · rw [if_pos c75] at H
                                have c75b0 := eq_true c75
                                have c75b1 : decide ((rdOf ByteArray.empty y329 (ji14)).size + t341.size ≤ 9223372036854775807) = true := decide_eq_true c75
                                try have c75b2 : (9223372036854775807 < (rdOf ByteArray.empty y329 (ji14)).size + t341.size) = False := eq_false (Nat.not_lt.2 c75)
                                try have c75b3 := c75b2
                                try simp only [ByteArray.size_append, own_sz10_0, own_sz10_1, own_sz10_2, own_sz10_3, own_sz10_4, own_sz10_5, own_sz10_6, own_sz10_7] at c75b3
                                by_cases c76 : ((rdOf ByteArray.empty y329 (ji14)) ++ t341).size + (rdOf ByteArray.empty y329 (ji14)).size ≤ 9223372036854775807
                                · rw [if_pos c76] at H
                                  have c76b0 := eq_true c76
                                  have c76b1 : decide (((rdOf ByteArray.empty y329 (ji14)) ++ t341).size + (rdOf ByteArray.empty y329 (ji14)).size ≤ 9223372036854775807) = true := decide_eq_true c76
                                  try have c76b2 : (9223372036854775807 < ((rdOf ByteArray.empty y329 (ji14)) ++ t341).size + (rdOf ByteArray.empty y329 (ji14)).size) = False := eq_false (Nat.not_lt.2 c76)
                                  try have c76b3 := c76b2
                                  try simp only [ByteArray.size_append, own_sz10_0, own_sz10_1, own_sz10_2, own_sz10_3, own_sz10_4, own_sz10_5, own_sz10_6, own_sz10_7] at c76b3
                                  by_cases c77 : (((rdOf ByteArray.empty y329 (ji14)) ++ t341) ++ (rdOf ByteArray.empty y329 (ji14))).size + x10_16.size ≤ 9223372036854775807
                                  · rw [if_pos c77] at H
                                    have c77b0 := eq_true c77
                                    have c77b1 : decide ((((rdOf ByteArray.empty y329 (ji14)) ++ t341) ++ (rdOf ByteArray.empty y329 (ji14))).size + x10_16.size ≤ 9223372036854775807) = true := decide_eq_true c77
                                    try have c77b2 : (9223372036854775807 < (((rdOf ByteArray.empty y329 (ji14)) ++ t341) ++ (rdOf ByteArray.empty y329 (ji14))).size + x10_16.size) = False := eq_false (Nat.not_lt.2 c77)
                                    try have c77b3 := c77b2
                                    try simp only [ByteArray.size_append, own_sz10_0, own_sz10_1, own_sz10_2, own_sz10_3, own_sz10_4, own_sz10_5, own_sz10_6, own_sz10_7] at c77b3
                                    by_cases c78 : ((((rdOf ByteArray.empty y329 (ji14)) ++ t341) ++ (rdOf ByteArray.empty y329 (ji14))) ++ x10_16).size + (rdOf ByteArray.empty y329 (ji14)).size ≤ 9223372036854775807
                                    · rw [if_pos c78] at H
                                      have c78b0 := eq_true c78
                                      have c78b1 : decide (((((rdOf ByteArray.empty y329 (ji14)) ++ t341) ++ (rdOf ByteArray.empty y329 (ji14))) ++ x10_16).size + (rdOf ByteArray.empty y329 (ji14)).size ≤ 9223372036854775807) = true := decide_eq_true c78
                                      try have c78b2 : (9223372036854775807 < ((((rdOf ByteArray.empty y329 (ji14)) ++ t341) ++ (rdOf ByteArray.empty y329 (ji14))) ++ x10_16).size + (rdOf ByteArray.empty y329 (ji14)).size) = False := eq_false (Nat.not_lt.2 c78)
                                      try have c78b3 := c78b2
                                      try simp only [ByteArray.size_append, own_sz10_0, own_sz10_1, own_sz10_2, own_sz10_3, own_sz10_4, own_sz10_5, own_sz10_6, own_sz10_7] at c78b3
                                      by_cases c79 : (((((rdOf ByteArray.empty y329 (ji14)) ++ t341) ++ (rdOf ByteArray.empty y329 (ji14))) ++ x10_16) ++ (rdOf ByteArray.empty y329 (ji14))).size + 1 ≤ 9223372036854775807
                                      · rw [if_pos c79] at H
                                        have c79b0 := eq_true c79
                                        have c79b1 : decide ((((((rdOf ByteArray.empty y329 (ji14)) ++ t341) ++ (rdOf ByteArray.empty y329 (ji14))) ++ x10_16) ++ (rdOf ByteArray.empty y329 (ji14))).size + 1 ≤ 9223372036854775807) = true := decide_eq_true c79
                                        try have c79b2 : (9223372036854775807 < (((((rdOf ByteArray.empty y329 (ji14)) ++ t341) ++ (rdOf ByteArray.empty y329 (ji14))) ++ x10_16) ++ (rdOf ByteArray.empty y329 (ji14))).size + 1) = False := eq_false (Nat.not_lt.2 c79)
                                        try have c79b3 := c79b2
                                        try simp only [ByteArray.size_append, own_sz10_0, own_sz10_1, own_sz10_2, own_sz10_3, own_sz10_4, own_sz10_5, own_sz10_6, own_sz10_7] at c79b3
                                        by_cases c80 : x5_1.size + ((((((rdOf ByteArray.empty y329 (ji14)) ++ t341) ++ (rdOf ByteArray.empty y329 (ji14))) ++ x10_16) ++ (rdOf ByteArray.empty y329 (ji14))) ++ (⟨#[10]⟩ : ByteArray)).size ≤ 9223372036854775807
                                        · rw [if_pos c80] at H
                                          have c80b0 := eq_true c80
                                          have c80b1 : decide (x5_1.size + ((((((rdOf ByteArray.empty y329 (ji14)) ++ t341) ++ (rdOf ByteArray.empty y329 (ji14))) ++ x10_16) ++ (rdOf ByteArray.empty y329 (ji14))) ++ (⟨#[10]⟩ : ByteArray)).size ≤ 9223372036854775807) = true := decide_eq_true c80
                                          try have c80b2 : (9223372036854775807 < x5_1.size + ((((((rdOf ByteArray.empty y329 (ji14)) ++ t341) ++ (rdOf ByteArray.empty y329 (ji14))) ++ x10_16) ++ (rdOf ByteArray.empty y329 (ji14))) ++ (⟨#[10]⟩ : ByteArray)).size) = False := eq_false (Nat.not_lt.2 c80)
                                          try have c80b3 := c80b2
                                          try simp only [ByteArray.size_append, own_sz10_0, own_sz10_1, own_sz10_2, own_sz10_3, own_sz10_4, own_sz10_5, own_sz10_6, own_sz10_7] at c80b3
                                          by_cases c81 : (((Int.tdiv x8_5 16) % 256) % 2) = 1
                                          · rw [if_pos c81] at H
                                            have c81b0 : ((((Int.tdiv x8_5 16) % 256) % 2) == 1) = true := beq_iff_eq.mpr c81
                                            have c81n0 : (Int.tdiv x8_5 16 % 2 == 1) = true := by have h_ := c81b0; rwa [own_e256] at h_
                                            have c81b1 : ((((Int.tdiv x8_5 16) % 256) % 2) != 1) = false := bne_eq_false_iff_eq.mpr c81
                                            clear c81
                                            by_cases c82 : 1 + (rdOf ByteArray.empty y329 (ji14)).size ≤ 9223372036854775807
                                            · rw [if_pos c82] at H
                                              have c82b0 := eq_true c82
                                              have c82b1 : decide (1 + (rdOf ByteArray.empty y329 (ji14)).size ≤ 9223372036854775807) = true := decide_eq_true c82
                                              try have c82b2 : (9223372036854775807 < 1 + (rdOf ByteArray.empty y329 (ji14)).size) = False := eq_false (Nat.not_lt.2 c82)
                                              try have c82b3 := c82b2
                                              try simp only [ByteArray.size_append, own_sz10_0, own_sz10_1, own_sz10_2, own_sz10_3, own_sz10_4, own_sz10_5, own_sz10_6, own_sz10_7] at c82b3
                                              by_cases c83 : ((⟨#[10]⟩ : ByteArray) ++ (rdOf ByteArray.empty y329 (ji14))).size + 1 ≤ 9223372036854775807
                                              · rw [if_pos c83] at H
                                                have c83b0 := eq_true c83
                                                have c83b1 : decide (((⟨#[10]⟩ : ByteArray) ++ (rdOf ByteArray.empty y329 (ji14))).size + 1 ≤ 9223372036854775807) = true := decide_eq_true c83
                                                try have c83b2 : (9223372036854775807 < ((⟨#[10]⟩ : ByteArray) ++ (rdOf ByteArray.empty y329 (ji14))).size + 1) = False := eq_false (Nat.not_lt.2 c83)
                                                try have c83b3 := c83b2
                                                try simp only [ByteArray.size_append, own_sz10_0, own_sz10_1, own_sz10_2, own_sz10_3, own_sz10_4, own_sz10_5, own_sz10_6, own_sz10_7] at c83b3
                                                by_cases c84 : (x5_1 ++ ((((((rdOf ByteArray.empty y329 (ji14)) ++ t341) ++ (rdOf ByteArray.empty y329 (ji14))) ++ x10_16) ++ (rdOf ByteArray.empty y329 (ji14))) ++ (⟨#[10]⟩ : ByteArray))).size + (((⟨#[10]⟩ : ByteArray) ++ (rdOf ByteArray.empty y329 (ji14))) ++ (⟨#[10]⟩ : ByteArray)).size ≤ 9223372036854775807
                                                · rw [if_pos c84] at H
                                                  have c84b0 := eq_true c84
                                                  have c84b1 : decide ((x5_1 ++ ((((((rdOf ByteArray.empty y329 (ji14)) ++ t341) ++ (rdOf ByteArray.empty y329 (ji14))) ++ x10_16) ++ (rdOf ByteArray.empty y329 (ji14))) ++ (⟨#[10]⟩ : ByteArray))).size + (((⟨#[10]⟩ : ByteArray) ++ (rdOf ByteArray.empty y329 (ji14))) ++ (⟨#[10]⟩ : ByteArray)).size ≤ 9223372036854775807) = true := decide_eq_true c84
                                                  try have c84b2 : (9223372036854775807 < (x5_1 ++ ((((((rdOf ByteArray.empty y329 (ji14)) ++ t341) ++ (rdOf ByteArray.empty y329 (ji14))) ++ x10_16) ++ (rdOf ByteArray.empty y329 (ji14))) ++ (⟨#[10]⟩ : ByteArray))).size + (((⟨#[10]⟩ : ByteArray) ++ (rdOf ByteArray.empty y329 (ji14))) ++ (⟨#[10]⟩ : ByteArray)).size) = False := eq_false (Nat.not_lt.2 c84)
                                                  try have c84b3 := c84b2
                                                  try simp only [ByteArray.size_append, own_sz10_0, own_sz10_1, own_sz10_2, own_sz10_3, own_sz10_4, own_sz10_5, own_sz10_6, own_sz10_7] at c84b3
                                                  have H' := Aside0.mk H
                                                  clear H
                                                  have hcz85_0 : wc.cell? ⟨gb327, 0, none⟩ = some (.int .i64 ((rd_T29 l0 x13_1).f0)) := (blk_cell BK327.out 0).trans rfl
                                                  have hcz85_1 : wc.cell? ⟨gb327, 1, none⟩ = some (.slice A326_1 ((rd_T29 l0 x13_1).f1).length c326_1) := (blk_cell BK327.out 1).trans rfl
                                                  have hcz85_2 : wc.cell? ⟨gb327, 2, none⟩ = some (.bool ((rd_T29 l0 x13_1).f2)) := (blk_cell BK327.out 2).trans rfl
                                                  have hfz85_0 := blk_frozen BK327.out 0
                                                  have hfz85_1 := blk_frozen BK327.out 1
                                                  have hfz85_2 := blk_frozen BK327.out 2
                                                  go_wp2_with (first | ((with_reducible refine gate_callee (f := 17) rfl ?_); refine goesL_ (some 92) rfl rfl Tryd.func17 (by kernel_rfl) rfl #[.int .i64 ((rd_T29 l0 x13_1).f0)] rfl (by (try simp only [List.map_toArray, List.map_cons, List.map_nil]); first | done | rfl | (simp only [List.length_drop, List.length_take]; rfl)) ?_; (with_reducible refine (spec_Name.calls ((rd_T29 l0 x13_1).f0) t341 _ A74.out).mono ?_); rintro e w86 ⟨rfl, hb⟩; refine ⟨_, rfl, ?_⟩; have n0_ := Aside0.mk (blk_below (g := gb327) (o := .cells #[.int .i64 ((rd_T29 l0 x13_1).f0), .slice A326_1 ((rd_T29 l0 x13_1).f1).length c326_1, .bool ((rd_T29 l0 x13_1).f2)] 29 (0, 0)) (by (with_reducible repeat (first | refine blk_drewN ?_ _ | refine blk_drew ?_ | refine blk_alloc ?_ _)); exact BK327.out) hb); have n1_ := Aside0.mk (below_step (by repeat (first | (with_reducible first | exact HB.out | apply below_alloc | apply pw_below_drewN | apply below_drew1 | refine below_set ?_ GE327.out) | exact HB.out)) hb); clear BK327; clear HB; have BK327 := n0_; have HB := n1_; clear n0_ n1_; (try clear hb); (try clear hb2); (try clear hk); (try clear hi)))
                                                  go_roundg kj49
                                                  case measure => have := HK1.out; have := HJ5.out; have := HJ16.out; have := HJ49.out; omega
                                                  case rel => exact ⟨((x5_1 ++ ((((((rdOf ByteArray.empty y329 (ji14)) ++ t341) ++ (rdOf ByteArray.empty y329 (ji14))) ++ x10_16) ++ (rdOf ByteArray.empty y329 (ji14))) ++ (⟨#[10]⟩ : ByteArray))) ++ (((⟨#[10]⟩ : ByteArray) ++ (rdOf ByteArray.empty y329 (ji14))) ++ (⟨#[10]⟩ : ByteArray))), (wrap64 (x13_1 + 1)), (by first | rfl | (simp; done) | (simp only [← hji14] <;> (first | rfl | simp)) | (simp [*]; done)), (by first | rfl | (simp; done) | (simp [*]; done)), H', ⟨by have := HK1.out; have := HJ5.out; have := HJ16.out; have := HJ49.out; omega⟩, ⟨by repeat (first | (with_reducible first | exact HB.out | apply below_alloc | apply pw_below_drewN | apply below_drew1 | refine below_set ?_ GE327.out) | exact HB.out)⟩⟩
                                                · rw [if_neg c84] at H
                                                  exact absurd H (by simp)
                                              · rw [if_neg c83] at H
                                                exact absurd H (by simp)
                                            · rw [if_neg c82] at H
                                              exact absurd H (by simp)
                                          · rw [if_neg c81] at H
                                            have c81b0 : ((((Int.tdiv x8_5 16) % 256) % 2) == 1) = false := beq_eq_false_iff_ne.mpr c81
                                            have c81n0 : (Int.tdiv x8_5 16 % 2 == 1) = false := by have h_ := c81b0; rwa [own_e256] at h_
                                            have c81b1 : ((((Int.tdiv x8_5 16) % 256) % 2) != 1) = true := bne_iff_ne.mpr c81
                                            have H' := Aside0.mk H
                                            clear H
                                            have hcz87_0 : wc.cell? ⟨gb327, 0, none⟩ = some (.int .i64 ((rd_T29 l0 x13_1).f0)) := (blk_cell BK327.out 0).trans rfl
                                            have hcz87_1 : wc.cell? ⟨gb327, 1, none⟩ = some (.slice A326_1 ((rd_T29 l0 x13_1).f1).length c326_1) := (blk_cell BK327.out 1).trans rfl
                                            have hcz87_2 : wc.cell? ⟨gb327, 2, none⟩ = some (.bool ((rd_T29 l0 x13_1).f2)) := (blk_cell BK327.out 2).trans rfl
                                            have hfz87_0 := blk_frozen BK327.out 0
                                            have hfz87_1 := blk_frozen BK327.out 1
                                            have hfz87_2 := blk_frozen BK327.out 2
                                            go_wp2_with (first | ((with_reducible refine gate_callee (f := 17) rfl ?_); refine goesL_ (some 92) rfl rfl Tryd.func17 (by kernel_rfl) rfl #[.int .i64 ((rd_T29 l0 x13_1).f0)] rfl (by (try simp only [List.map_toArray, List.map_cons, List.map_nil]); first | done | rfl | (simp only [List.length_drop, List.length_take]; rfl)) ?_; (with_reducible refine (spec_Name.calls ((rd_T29 l0 x13_1).f0) t341 _ A74.out).mono ?_); rintro e w88 ⟨rfl, hb⟩; refine ⟨_, rfl, ?_⟩; have n0_ := Aside0.mk (blk_below (g := gb327) (o := .cells #[.int .i64 ((rd_T29 l0 x13_1).f0), .slice A326_1 ((rd_T29 l0 x13_1).f1).length c326_1, .bool ((rd_T29 l0 x13_1).f2)] 29 (0, 0)) (by (with_reducible repeat (first | refine blk_drewN ?_ _ | refine blk_drew ?_ | refine blk_alloc ?_ _)); exact BK327.out) hb); have n1_ := Aside0.mk (below_step (by repeat (first | (with_reducible first | exact HB.out | apply below_alloc | apply pw_below_drewN | apply below_drew1 | refine below_set ?_ GE327.out) | exact HB.out)) hb); clear BK327; clear HB; have BK327 := n0_; have HB := n1_; clear n0_ n1_; (try clear hb); (try clear hb2); (try clear hk); (try clear hi)))
                                            go_roundg kj49
                                            case measure => have := HK1.out; have := HJ5.out; have := HJ16.out; have := HJ49.out; omega
                                            case rel => exact ⟨(x5_1 ++ ((((((rdOf ByteArray.empty y329 (ji14)) ++ t341) ++ (rdOf ByteArray.empty y329 (ji14))) ++ x10_16) ++ (rdOf ByteArray.empty y329 (ji14))) ++ (⟨#[10]⟩ : ByteArray))), (wrap64 (x13_1 + 1)), (by first | rfl | (simp; done) | (simp only [← hji14] <;> (first | rfl | simp)) | (simp [*]; done)), (by first | rfl | (simp; done) | (simp [*]; done)), H', ⟨by have := HK1.out; have := HJ5.out; have := HJ16.out; have := HJ49.out; omega⟩, ⟨by repeat (first | (with_reducible first | exact HB.out | apply below_alloc | apply pw_below_drewN | apply below_drew1 | refine below_set ?_ GE327.out) | exact HB.out)⟩⟩
                                        · rw [if_neg c80] at H
                                          exact absurd H (by simp)
                                      · rw [if_neg c79] at H
                                        exact absurd H (by simp)
                                    · rw [if_neg c78] at H
                                      exact absurd H (by simp)
                                  · rw [if_neg c77] at H
                                    exact absurd H (by simp)
                                · rw [if_neg c76] at H
                                  exact absurd H (by simp)
                              · rw [if_neg c75] at H
                                exact absurd H (by simp)
                  · rw [if_neg c16] at H
                    exact absurd H (by simp)
                · rw [if_neg c15] at H
                  exact absurd H (by simp)
          · rw [if_neg c5] at H
            exact absurd H (by simp)
        · rw [if_neg c4] at H
          exact absurd H (by simp)
      · rw [if_neg c3] at H
        have c3b0 : decide (x13_1 < (l0.length : Int)) = false := decide_eq_false c3
        clear c3
        obtain rfl := Option.some.inj H
        go_wp2
        go_ret
        exact ⟨by first | rfl | (simp [errW_none, errW_some] <;> rfl) | (simp [*, errW_none, errW_some] <;> rfl), by repeat (first | (with_reducible first | exact HB.out | apply below_alloc | apply pw_below_drewN | apply below_drew1) | exact HB.out)⟩

end Go.Proofs.YtikgnlgmidbclaaDoor.PFnModulePath
