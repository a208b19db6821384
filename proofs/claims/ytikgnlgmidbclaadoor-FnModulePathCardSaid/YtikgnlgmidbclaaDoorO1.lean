/- The walks of laws.zzFits3, zzFits2, zzFits1 and spec.wordOk: each answers what its Lean function answers. Condition: that function answers. (Began as a text of print.sh.) -/
import Derived.Test.YtikgnlgmidbclaaDoorO0
namespace Go.Proofs.YtikgnlgmidbclaaDoor.PFnModulePath
open Go.RowKit Go.Proofs.YtikgnlgmidbclaaDoorW.PrintWords Go.Proofs.YtikgnlgmidbclaaDoorW.PrintLast Go.Proofs.YtikgnlgmidbclaaDoorW.PrintMore
attribute [local go_sem] max2_int min2_int max_two min_two max_three min_three max_four min_four   -- for this text's walks alone
set_option linter.unusedVariables false
set_option linter.unusedSimpArgs false

/-! ### laws_zzFits3: function 19 -/
def laws_zzFits3.l0 : Nat → List ByteArray → Int → Int → Option (Bool)
  | 0, _, _, _ => none
  | k + 1, x8, x9, x10 => if x10 < x9 then (if 0 ≤ x10 then (if x10 < (x8.length : Int) then (if ((rdOf ByteArray.empty x8 x10).size : Int) > 2147483647 then (some false) else (laws_zzFits3.l0 k x8 x9 (wrap64 (x10 + 1)))) else (none)) else (none)) else (some true)
def laws_zzFits3.f (k : Nat) (l0 : List ByteArray) : Option (Bool) := if (l0.length : Int) > 2147483647 then (some false) else (laws_zzFits3.l0 k l0 (l0.length : Int) 0)
theorem laws_zzFits3.mono_l : ∀ k, (∀ y0 y1 y2, LeO (laws_zzFits3.l0 k y0 y1 y2) (laws_zzFits3.l0 (k + 1) y0 y1 y2))
  | 0 => fun _ _ _ r h => by simp [laws_zzFits3.l0] at h
  | k + 1 => by
    have ih0 := laws_zzFits3.mono_l k
    · intro y0 y1 y2
      unfold laws_zzFits3.l0
      repeat' first
      | (with_reducible exact ih0 _ _ _)
      | (with_reducible exact LeO.refl _)
      | (with_reducible exact LeO.none _)
      | (with_reducible refine LeO.ite ?_ ?_)
      | (with_reducible refine LeO.bind ?_ (fun _ => ?_))
      | exact ih0 _ _ _
      | exact LeO.none _
      | refine LeO.ite ?_ ?_
      | refine LeO.bind ?_ (fun _ => ?_)
theorem laws_zzFits3.mono : ∀ a0 k, LeO (laws_zzFits3.f k a0) (laws_zzFits3.f (k + 1) a0) := by
  intro a0 k
  have ih0 := laws_zzFits3.mono_l k
  unfold laws_zzFits3.f
  repeat' first
      | (with_reducible exact ih0 _ _ _)
      | (with_reducible exact LeO.refl _)
      | (with_reducible exact LeO.none _)
      | (with_reducible refine LeO.ite ?_ ?_)
      | (with_reducible refine LeO.bind ?_ (fun _ => ?_))
      | exact ih0 _ _ _
      | exact LeO.none _
      | refine LeO.ite ?_ ?_
      | refine LeO.bind ?_ (fun _ => ?_)
set_option maxHeartbeats 8000000 in
set_option maxRecDepth 100000 in
theorem laws_zzFits3.calls (k : Nat) (A0 : Option Addr) (c0 : Nat) (l0 : List ByteArray) (r : Bool) (w : World) (hr0 : Kd.C Kd.string w A0 l0.length l0) (hc0 : l0.length ≤ c0) (h : laws_zzFits3.f k l0 = some r) :
    Calls Tryd.prog 19 #[.slice A0 l0.length c0] w fun e w' => e = .returned (.bool r) ∧ Drawn0 w w' := by
  have HR0 := Aside0.mk hr0
  have HC0 := Aside0.mk hc0
  clear hr0 hc0
  have H : (if (l0.length : Int) > 2147483647 then (some false) else (laws_zzFits3.l0 k l0 (l0.length : Int) 0)) = some r := h
  clear h
  by_cases c2 : (l0.length : Int) > 2147483647
  · rw [if_pos c2] at H
    have c2b0 : decide (2147483647 < (l0.length : Int)) = true := decide_eq_true c2
    have c2b1 : decide (2147483647 < l0.length) = true := decide_eq_true (by omega)
    clear c2
    obtain rfl := Option.some.inj H
    go_enter Tryd.func19, Tryd.ntmps19
    go_wp2
    go_ret
    exact ⟨by first | rfl | (simp; done) | (simp [*]; done), by repeat (first | exact Drawn0.refl _ | apply Drawn0.step)⟩
  · rw [if_neg c2] at H
    have c2b0 : decide (2147483647 < (l0.length : Int)) = false := decide_eq_false c2
    have c2b1 : decide (2147483647 < l0.length) = false := decide_eq_false (by omega)
    clear c2
    have H' := Aside0.mk H
    clear H
    go_enter Tryd.func19, Tryd.ntmps19
    go_wp2
    go_loopg [10] k (fun kq v10 w' => ∃ (x10_1 : Int), v10 = .int .i64 x10_1 ∧ Aside0 (laws_zzFits3.l0 kq l0 (l0.length : Int) x10_1 = some r) ∧ Aside0 (kq ≤ k) ∧ Drawn0 w w')
    case atStart => exact ⟨(0), (by first | rfl | (simp; done) | (simp [*]; done)), H', ⟨Nat.le_refl _⟩, by repeat (first | exact Drawn0.refl _ | apply Drawn0.step)⟩
    case round =>
      clear H'
      try clear c1
      try clear c2
      try clear c2b0
      try clear c2b1
      try clear p2
      obtain ⟨x10_1, rfl, HA, HK1, ⟨m1, rfl⟩⟩ := hrel
      cases gk with
      | zero => exact absurd HA.out (by simp [laws_zzFits3.l0])
      | succ k1 =>
        have H := HA.out
        clear HA
        simp only [laws_zzFits3.l0] at H
        by_cases c3 : x10_1 < (l0.length : Int)
        · rw [if_pos c3] at H
          have c3b0 : decide (x10_1 < (l0.length : Int)) = true := decide_eq_true c3
          clear c3
          by_cases c4 : 0 ≤ x10_1
          · rw [if_pos c4] at H
            have c4b0 : decide (0 ≤ x10_1) = true := decide_eq_true c4
            clear c4
            by_cases c5 : x10_1 < (l0.length : Int)
            · rw [if_pos c5] at H
              have c5b0 : decide (x10_1 < (l0.length : Int)) = true := decide_eq_true c5
              clear c5
              by_cases c6 : ((rdOf ByteArray.empty l0 x10_1).size : Int) > 2147483647
              · rw [if_pos c6] at H
                have c6b0 : decide (2147483647 < ((rdOf ByteArray.empty l0 x10_1).size : Int)) = true := decide_eq_true c6
                have c6b1 : decide (2147483647 < (rdOf ByteArray.empty l0 x10_1).size) = true := decide_eq_true (by omega)
                clear c6
                obtain rfl := Option.some.inj H
                have p101 : 0 ≤ (x10_1 : Int) := of_decide_eq_true (by first | (with_reducible assumption) | assumption)
                have q101 : x10_1 < (l0.length : Int) := of_decide_eq_true (by first | (with_reducible assumption) | assumption)
                obtain ⟨ad101, e101, hx101_0⟩ := Kd.at_string HR0.out x10_1 p101 q101
                cases e101
                replace p101 := eq_true p101
                replace q101 := eq_true q101
                go_wp2
                go_ret
                exact ⟨by first | rfl | (simp; done) | (simp [*]; done), by repeat (first | exact Drawn0.refl _ | apply Drawn0.step)⟩
              · rw [if_neg c6] at H
                have c6b0 : decide (2147483647 < ((rdOf ByteArray.empty l0 x10_1).size : Int)) = false := decide_eq_false c6
                have c6b1 : decide (2147483647 < (rdOf ByteArray.empty l0 x10_1).size) = false := decide_eq_false (by omega)
                clear c6
                have H' := Aside0.mk H
                clear H
                have p101 : 0 ≤ (x10_1 : Int) := of_decide_eq_true (by first | (with_reducible assumption) | assumption)
                have q101 : x10_1 < (l0.length : Int) := of_decide_eq_true (by first | (with_reducible assumption) | assumption)
                obtain ⟨ad101, e101, hx101_0⟩ := Kd.at_string HR0.out x10_1 p101 q101
                cases e101
                replace p101 := eq_true p101
                replace q101 := eq_true q101
                go_wp2
                go_roundg k1
                case measure => have := HK1.out; omega
                case rel => exact ⟨(wrap64 (x10_1 + 1)), (by first | rfl | (simp; done) | (simp [*]; done)), H', ⟨by have := HK1.out; omega⟩, by repeat (first | exact Drawn0.refl _ | apply Drawn0.step)⟩
            · rw [if_neg c5] at H
              exact absurd H (by simp)
          · rw [if_neg c4] at H
            exact absurd H (by simp)
        · rw [if_neg c3] at H
          have c3b0 : decide (x10_1 < (l0.length : Int)) = false := decide_eq_false c3
          clear c3
          obtain rfl := Option.some.inj H
          go_wp2
          go_ret
          exact ⟨by first | rfl | (simp; done) | (simp [*]; done), by repeat (first | exact Drawn0.refl _ | apply Drawn0.step)⟩

/-! ### laws_zzFits2: function 9 -/
def laws_zzFits2.f (k : Nat) (a0_0 : Int) (l0_1 : List ByteArray) (a0_2 : Bool) : Option (Bool) := (laws_zzFits3.f k l0_1).bind fun t103 => (if t103 = true then (some true) else (some false))
theorem laws_zzFits2.mono : ∀ a0 a1 a2 k, LeO (laws_zzFits2.f k a0 a1 a2) (laws_zzFits2.f (k + 1) a0 a1 a2) := by
  intro a0 a1 a2 k
  unfold laws_zzFits2.f
  repeat' first
      | (with_reducible exact laws_zzFits3.mono _ _)
      | (with_reducible exact LeO.refl _)
      | (with_reducible exact LeO.none _)
      | (with_reducible refine LeO.ite ?_ ?_)
      | (with_reducible refine LeO.bind ?_ (fun _ => ?_))
      | exact laws_zzFits3.mono _ _
      | exact LeO.none _
      | refine LeO.ite ?_ ?_
      | refine LeO.bind ?_ (fun _ => ?_)
set_option maxHeartbeats 8000000 in
set_option maxRecDepth 100000 in
theorem laws_zzFits2.calls (k : Nat) (a0_0 : Int) (A0_1 : Option Addr) (c0_1 : Nat) (l0_1 : List ByteArray) (a0_2 : Bool) (r : Bool) (w : World) (hr0_1 : Kd.C Kd.string w A0_1 l0_1.length l0_1) (hc0_1 : l0_1.length ≤ c0_1) (h : laws_zzFits2.f k a0_0 l0_1 a0_2 = some r) :
    Calls Tryd.prog 9 #[.agg #[.int .i64 a0_0, .slice A0_1 l0_1.length c0_1, .bool a0_2]] w fun e w' => e = .returned (.bool r) ∧ Below w.heap.size w w' := by
  have hu29 := Tryd.underlying29
  have HR0_1 := Aside0.mk hr0_1
  have HC0_1 := Aside0.mk hc0_1
  clear hr0_1 hc0_1
  have HB := Aside0.mk (Below.refl w.heap.size w)
  have H : ((laws_zzFits3.f k l0_1).bind fun t103 => (if t103 = true then (some true) else (some false))) = some r := h
  clear h
  replace H := Option.bind_eq_some_iff.mp H
  obtain ⟨t103, A20, H⟩ := H
  replace H : (if t103 = true then (some true) else (some false)) = some r := H
  have A2 := Aside0.mk A20
  clear A20
  by_cases c3 : t103 = true
  · subst c3
    have H1 : (some true) = some r := by rw [if_pos rfl] at H; exact H
    clear H
    have H := H1
    clear H1
    obtain rfl := Option.some.inj H
    go_enter Tryd.func9, Tryd.ntmps9
    go_wp2_with (first | ((with_reducible refine gate_dst (N := 1) rfl ?_); refine box_event ?hg (N := 1) ?hd (cs := #[.int .i64 a0_0, .slice A0_1 l0_1.length c0_1, .bool a0_2]) (t := 29) ?hr ?_; (case hd => rfl); (case hg => rfl); (case hr => first | (go_simp; done) | (go_simp; rfl)); intro gb102 hg w4 hbox hb; have n0_ := Aside0.mk (below_step (by repeat (first | (with_reducible first | exact HB.out | apply below_alloc | apply pw_below_drewN | apply below_drew1) | exact HB.out)) hb); have n1_ := Aside0.mk (hbox); have n2_ := Aside0.mk ((by rw [hg]; exact (below_size (by repeat (first | (with_reducible first | exact HB.out | apply below_alloc | apply pw_below_drewN | apply below_drew1) | exact HB.out))) : w.heap.size ≤ gb102)); have n3_ := Aside0.mk ((by rw [hg]; exact (below_size (by repeat (first | (with_reducible first | exact HB.out | apply below_alloc | apply pw_below_drewN | apply below_drew1) | exact HB.out))) : w.heap.size ≤ gb102)); clear HB; have HB := n0_; have BK102 := n1_; have GW102 := n2_; have GE102 := n3_; clear n0_ n1_ n2_ n3_; clear hb hbox hg; have hcz5_0 : w4.cell? ⟨gb102, 0, none⟩ = some (.int .i64 a0_0) := (blk_cell BK102.out 0).trans rfl; have hcz5_1 : w4.cell? ⟨gb102, 1, none⟩ = some (.slice A0_1 l0_1.length c0_1) := (blk_cell BK102.out 1).trans rfl; have hcz5_2 : w4.cell? ⟨gb102, 2, none⟩ = some (.bool a0_2) := (blk_cell BK102.out 2).trans rfl; have hfz5_0 := blk_frozen BK102.out 0; have hfz5_1 := blk_frozen BK102.out 1; have hfz5_2 := blk_frozen BK102.out 2) | ((with_reducible refine gate_callee (f := 19) rfl ?_); refine goesL_ (some 5) rfl rfl Tryd.func19 (by kernel_rfl) rfl #[.slice A0_1 l0_1.length c0_1] rfl (by (try simp only [List.map_toArray, List.map_cons, List.map_nil]); first | done | rfl | (simp only [List.length_drop, List.length_take]; rfl)) ?_; (with_reducible refine (laws_zzFits3.calls k _ _ l0_1 true _ ?side1 ?side2 A2.out).mono ?_); (case side1 => repeat (first | exact (Kd.C_below HR0_1.out HB.out) | (with_reducible refine Kd.C_alloc ?_ _) | (with_reducible refine Kd.C_drewN ?_ _) | (with_reducible refine Kd.C_drew ?_))); (case side2 => exact HC0_1.out); rintro e w' ⟨rfl, ⟨nd, rfl⟩⟩; refine ⟨_, rfl, ?_⟩))
    go_ret
    exact ⟨by first | rfl | (simp [errW_none, errW_some] <;> rfl) | (simp [*, errW_none, errW_some] <;> rfl), by repeat (first | (with_reducible first | exact HB.out | apply below_alloc | apply pw_below_drewN | apply below_drew1 | refine below_set ?_ GE102.out) | exact HB.out)⟩
  · replace c3 := Bool.eq_false_iff.mpr c3
    subst c3
    have H1 : (some false) = some r := by rw [if_neg (show ¬ (false = true) by decide)] at H; exact H
    clear H
    have H := H1
    clear H1
    obtain rfl := Option.some.inj H
    go_enter Tryd.func9, Tryd.ntmps9
    go_wp2_with (first | ((with_reducible refine gate_dst (N := 1) rfl ?_); refine box_event ?hg (N := 1) ?hd (cs := #[.int .i64 a0_0, .slice A0_1 l0_1.length c0_1, .bool a0_2]) (t := 29) ?hr ?_; (case hd => rfl); (case hg => rfl); (case hr => first | (go_simp; done) | (go_simp; rfl)); intro gb102 hg w6 hbox hb; have n0_ := Aside0.mk (below_step (by repeat (first | (with_reducible first | exact HB.out | apply below_alloc | apply pw_below_drewN | apply below_drew1) | exact HB.out)) hb); have n1_ := Aside0.mk (hbox); have n2_ := Aside0.mk ((by rw [hg]; exact (below_size (by repeat (first | (with_reducible first | exact HB.out | apply below_alloc | apply pw_below_drewN | apply below_drew1) | exact HB.out))) : w.heap.size ≤ gb102)); have n3_ := Aside0.mk ((by rw [hg]; exact (below_size (by repeat (first | (with_reducible first | exact HB.out | apply below_alloc | apply pw_below_drewN | apply below_drew1) | exact HB.out))) : w.heap.size ≤ gb102)); clear HB; have HB := n0_; have BK102 := n1_; have GW102 := n2_; have GE102 := n3_; clear n0_ n1_ n2_ n3_; clear hb hbox hg; have hcz7_0 : w6.cell? ⟨gb102, 0, none⟩ = some (.int .i64 a0_0) := (blk_cell BK102.out 0).trans rfl; have hcz7_1 : w6.cell? ⟨gb102, 1, none⟩ = some (.slice A0_1 l0_1.length c0_1) := (blk_cell BK102.out 1).trans rfl; have hcz7_2 : w6.cell? ⟨gb102, 2, none⟩ = some (.bool a0_2) := (blk_cell BK102.out 2).trans rfl; have hfz7_0 := blk_frozen BK102.out 0; have hfz7_1 := blk_frozen BK102.out 1; have hfz7_2 := blk_frozen BK102.out 2) | ((with_reducible refine gate_callee (f := 19) rfl ?_); refine goesL_ (some 5) rfl rfl Tryd.func19 (by kernel_rfl) rfl #[.slice A0_1 l0_1.length c0_1] rfl (by (try simp only [List.map_toArray, List.map_cons, List.map_nil]); first | done | rfl | (simp only [List.length_drop, List.length_take]; rfl)) ?_; (with_reducible refine (laws_zzFits3.calls k _ _ l0_1 false _ ?side1 ?side2 A2.out).mono ?_); (case side1 => repeat (first | exact (Kd.C_below HR0_1.out HB.out) | (with_reducible refine Kd.C_alloc ?_ _) | (with_reducible refine Kd.C_drewN ?_ _) | (with_reducible refine Kd.C_drew ?_))); (case side2 => exact HC0_1.out); rintro e w' ⟨rfl, ⟨nd, rfl⟩⟩; refine ⟨_, rfl, ?_⟩))
    go_ret
    exact ⟨by first | rfl | (simp [errW_none, errW_some] <;> rfl) | (simp [*, errW_none, errW_some] <;> rfl), by repeat (first | (with_reducible first | exact HB.out | apply below_alloc | apply pw_below_drewN | apply below_drew1 | refine below_set ?_ GE102.out) | exact HB.out)⟩

/-! ### laws_zzFits1: function 4 -/
def laws_zzFits1.l0 : Nat → List (S29) → Int → Int → Option (Bool)
  | 0, _, _, _ => none
  | k + 1, x8, x9, x10 => if x10 < x9 then (if 0 ≤ x10 then (if x10 < (x8.length : Int) then ((laws_zzFits2.f k ((rd_T29 x8 x10).f0) ((rd_T29 x8 x10).f1) ((rd_T29 x8 x10).f2)).bind fun t106 => (if t106 = true then (laws_zzFits1.l0 k x8 x9 (wrap64 (x10 + 1))) else (some false))) else (none)) else (none)) else (some true)
def laws_zzFits1.f (k : Nat) (l0 : List (S29)) : Option (Bool) := if (l0.length : Int) > 2147483647 then (some false) else (laws_zzFits1.l0 k l0 (l0.length : Int) 0)
theorem laws_zzFits1.mono_l : ∀ k, (∀ y0 y1 y2, LeO (laws_zzFits1.l0 k y0 y1 y2) (laws_zzFits1.l0 (k + 1) y0 y1 y2))
  | 0 => fun _ _ _ r h => by simp [laws_zzFits1.l0] at h
  | k + 1 => by
    have ih0 := laws_zzFits1.mono_l k
    · intro y0 y1 y2
      unfold laws_zzFits1.l0
      repeat' first
      | (with_reducible exact ih0 _ _ _)
      | (with_reducible exact laws_zzFits2.mono _ _ _ _)
      | (with_reducible exact LeO.refl _)
      | (with_reducible exact LeO.none _)
      | (with_reducible refine LeO.ite ?_ ?_)
      | (with_reducible refine LeO.bind ?_ (fun _ => ?_))
      | exact ih0 _ _ _
      | exact laws_zzFits2.mono _ _ _ _
      | exact LeO.none _
      | refine LeO.ite ?_ ?_
      | refine LeO.bind ?_ (fun _ => ?_)
theorem laws_zzFits1.mono : ∀ a0 k, LeO (laws_zzFits1.f k a0) (laws_zzFits1.f (k + 1) a0) := by
  intro a0 k
  have ih0 := laws_zzFits1.mono_l k
  unfold laws_zzFits1.f
  repeat' first
      | (with_reducible exact ih0 _ _ _)
      | (with_reducible exact laws_zzFits2.mono _ _ _ _)
      | (with_reducible exact LeO.refl _)
      | (with_reducible exact LeO.none _)
      | (with_reducible refine LeO.ite ?_ ?_)
      | (with_reducible refine LeO.bind ?_ (fun _ => ?_))
      | exact ih0 _ _ _
      | exact laws_zzFits2.mono _ _ _ _
      | exact LeO.none _
      | refine LeO.ite ?_ ?_
      | refine LeO.bind ?_ (fun _ => ?_)
set_option maxHeartbeats 8000000 in
set_option maxRecDepth 100000 in
theorem laws_zzFits1.calls (k : Nat) (A0 : Option Addr) (c0 : Nat) (l0 : List (S29)) (r : Bool) (w : World) (hr0 : Kd.C k29 w A0 l0.length l0) (hc0 : l0.length ≤ c0) (h : laws_zzFits1.f k l0 = some r) :
    Calls Tryd.prog 4 #[.slice A0 l0.length c0] w fun e w' => e = .returned (.bool r) ∧ Below w.heap.size w w' := by
  have hu29 := Tryd.underlying29
  have HR0 := Aside0.mk hr0
  have HC0 := Aside0.mk hc0
  clear hr0 hc0
  have HB := Aside0.mk (Below.refl w.heap.size w)
  have H : (if (l0.length : Int) > 2147483647 then (some false) else (laws_zzFits1.l0 k l0 (l0.length : Int) 0)) = some r := h
  clear h
  by_cases c2 : (l0.length : Int) > 2147483647
  · rw [if_pos c2] at H
    have c2b0 : decide (2147483647 < (l0.length : Int)) = true := decide_eq_true c2
    have c2b1 : decide (2147483647 < l0.length) = true := decide_eq_true (by omega)
    clear c2
    obtain rfl := Option.some.inj H
    go_enter Tryd.func4, Tryd.ntmps4
    go_wp2
    go_ret
    exact ⟨by first | rfl | (simp [errW_none, errW_some] <;> rfl) | (simp [*, errW_none, errW_some] <;> rfl), by repeat (first | (with_reducible first | exact HB.out | apply below_alloc | apply pw_below_drewN | apply below_drew1) | exact HB.out)⟩
  · rw [if_neg c2] at H
    have c2b0 : decide (2147483647 < (l0.length : Int)) = false := decide_eq_false c2
    have c2b1 : decide (2147483647 < l0.length) = false := decide_eq_false (by omega)
    clear c2
    have H' := Aside0.mk H
    clear H
    go_enter Tryd.func4, Tryd.ntmps4
    go_wp2
    go_loopg [10] k (fun kq v10 w' => ∃ (x10_1 : Int), v10 = .int .i64 x10_1 ∧ Aside0 (laws_zzFits1.l0 kq l0 (l0.length : Int) x10_1 = some r) ∧ Aside0 (kq ≤ k) ∧ Aside0 (Below w.heap.size w w'))
    case atStart => exact ⟨(0), (by first | rfl | (simp; done) | (simp [*]; done)), H', ⟨Nat.le_refl _⟩, ⟨by repeat (first | (with_reducible first | exact HB.out | apply below_alloc | apply pw_below_drewN | apply below_drew1) | exact HB.out)⟩⟩
    case round =>
      clear H'
      try clear c2
      try clear c2b0
      try clear c2b1
      try clear p2
      obtain ⟨x10_1, rfl, HA, HK1, HB⟩ := hrel
      cases gk with
      | zero => exact absurd HA.out (by simp [laws_zzFits1.l0])
      | succ k1 =>
        have H := HA.out
        clear HA
        simp only [laws_zzFits1.l0] at H
        by_cases c3 : x10_1 < (l0.length : Int)
        · rw [if_pos c3] at H
          have c3b0 : decide (x10_1 < (l0.length : Int)) = true := decide_eq_true c3
          clear c3
          by_cases c4 : 0 ≤ x10_1
          · rw [if_pos c4] at H
            have c4b0 : decide (0 ≤ x10_1) = true := decide_eq_true c4
            clear c4
            by_cases c5 : x10_1 < (l0.length : Int)
            · rw [if_pos c5] at H
              have c5b0 : decide (x10_1 < (l0.length : Int)) = true := decide_eq_true c5
              clear c5
              replace H := Option.bind_eq_some_iff.mp H
              obtain ⟨t106, A60, H⟩ := H
              replace H : (if t106 = true then (laws_zzFits1.l0 k1 l0 (l0.length : Int) (wrap64 (x10_1 + 1))) else (some false)) = some r := H
              have A6 := Aside0.mk A60
              clear A60
              by_cases c7 : t106 = true
              · subst c7
                have H1 : (laws_zzFits1.l0 k1 l0 (l0.length : Int) (wrap64 (x10_1 + 1))) = some r := by rw [if_pos rfl] at H; exact H
                clear H
                have H := H1
                clear H1
                have H' := Aside0.mk H
                clear H
                have p104 : 0 ≤ (x10_1 : Int) := of_decide_eq_true (by first | (with_reducible assumption) | assumption)
                have q104 : x10_1 < (l0.length : Int) := of_decide_eq_true (by first | (with_reducible assumption) | assumption)
                obtain ⟨ad104, A104_1, c104_1, e104, hx104_0, hx104_1, hx104_2, hl104_1, hi104_1⟩ := at_T29 HR0.out x10_1 p104 q104
                cases e104
                replace hx104_0 := (HB.out.cell (World.block_lt_of_cell? w _ hx104_0)).trans hx104_0
                replace hx104_1 := (HB.out.cell (World.block_lt_of_cell? w _ hx104_1)).trans hx104_1
                replace hx104_2 := (HB.out.cell (World.block_lt_of_cell? w _ hx104_2)).trans hx104_2
                have HR104_1 := Aside0.mk hi104_1
                have HC104_1 := Aside0.mk hl104_1
                clear hi104_1 hl104_1
                replace p104 := eq_true p104
                replace q104 := eq_true q104
                go_wp2_with (first | ((with_reducible refine gate_dst (N := 4) rfl ?_); refine box_event ?hg (N := 4) ?hd (cs := #[.int .i64 0, .slice none 0 0, .bool false]) (t := 29) ?hr ?_; (case hd => rfl); (case hg => rfl); (case hr => first | (go_simp; done) | (go_simp; rfl)); intro gb105 hg w8 hbox hb; have n0_ := Aside0.mk (below_step (by repeat (first | (with_reducible first | exact HB.out | apply below_alloc | apply pw_below_drewN | apply below_drew1) | exact HB.out)) hb); have n1_ := Aside0.mk (hbox); have n2_ := Aside0.mk ((by rw [hg]; exact (below_size (by repeat (first | (with_reducible first | exact HB.out | apply below_alloc | apply pw_below_drewN | apply below_drew1) | exact HB.out))) : w.heap.size ≤ gb105)); have n3_ := Aside0.mk ((by rw [hg]; exact (below_size (by repeat (first | (with_reducible first | exact HB.out | apply below_alloc | apply pw_below_drewN | apply below_drew1) | exact HB.out))) : w.heap.size ≤ gb105)); clear HB; have HB := n0_; have BK105 := n1_; have GW105 := n2_; have GE105 := n3_; clear n0_ n1_ n2_ n3_; clear hb hbox hg; have hcz9_0 : w8.cell? ⟨gb105, 0, none⟩ = some (.int .i64 0) := (blk_cell BK105.out 0).trans rfl; have hcz9_1 : w8.cell? ⟨gb105, 1, none⟩ = some (.slice none 0 0) := (blk_cell BK105.out 1).trans rfl; have hcz9_2 : w8.cell? ⟨gb105, 2, none⟩ = some (.bool false) := (blk_cell BK105.out 2).trans rfl; have hfz9_0 := blk_frozen BK105.out 0; have hfz9_1 := blk_frozen BK105.out 1; have hfz9_2 := blk_frozen BK105.out 2) | ((with_reducible refine gate_callee (f := 9) rfl ?_); refine goesL_ (some 15) rfl rfl Tryd.func9 (by kernel_rfl) rfl #[.agg #[.int .i64 ((rd_T29 l0 x10_1).f0), .slice A104_1 ((rd_T29 l0 x10_1).f1).length c104_1, .bool ((rd_T29 l0 x10_1).f2)]] rfl (by (try simp only [List.map_toArray, List.map_cons, List.map_nil]); first | done | rfl | (simp only [List.length_drop, List.length_take]; rfl)) ?_; (with_reducible refine (laws_zzFits2.calls k1 ((rd_T29 l0 x10_1).f0) _ _ ((rd_T29 l0 x10_1).f1) ((rd_T29 l0 x10_1).f2) true _ ?side1 ?side2 A6.out).mono ?_); (case side1 => exact Kd.C_below HR104_1.out (by repeat (first | (with_reducible first | exact HB.out | apply below_alloc | apply pw_below_drewN | apply below_drew1 | refine below_set ?_ GE105.out) | exact HB.out))); (case side2 => exact HC104_1.out); rintro e w10 ⟨rfl, hb⟩; refine ⟨_, rfl, ?_⟩; have n0_ := Aside0.mk (blk_below (g := gb105) (o := .cells #[.int .i64 ((rd_T29 l0 x10_1).f0), .slice A104_1 ((rd_T29 l0 x10_1).f1).length c104_1, .bool ((rd_T29 l0 x10_1).f2)] 29 (0, 0)) (by (with_reducible repeat (first | refine blk_drewN ?_ _ | refine blk_drew ?_ | refine blk_alloc ?_ _)); refine blk_put (cs := #[.int .i64 ((rd_T29 l0 x10_1).f0), .slice A104_1 ((rd_T29 l0 x10_1).f1).length c104_1, .bool false]) ?_ 2 _ rfl; (with_reducible repeat (first | refine blk_drewN ?_ _ | refine blk_drew ?_ | refine blk_alloc ?_ _)); refine blk_put (cs := #[.int .i64 ((rd_T29 l0 x10_1).f0), .slice none 0 0, .bool false]) ?_ 1 _ rfl; (with_reducible repeat (first | refine blk_drewN ?_ _ | refine blk_drew ?_ | refine blk_alloc ?_ _)); refine blk_put (cs := #[.int .i64 0, .slice none 0 0, .bool false]) ?_ 0 _ rfl; (with_reducible repeat (first | refine blk_drewN ?_ _ | refine blk_drew ?_ | refine blk_alloc ?_ _)); exact BK105.out) hb); have n1_ := Aside0.mk (below_step (by repeat (first | (with_reducible first | exact HB.out | apply below_alloc | apply pw_below_drewN | apply below_drew1 | refine below_set ?_ GE105.out) | exact HB.out)) hb); clear BK105; clear HB; have BK105 := n0_; have HB := n1_; clear n0_ n1_; (try clear hb); (try clear hb2); (try clear hk); (try clear hi)))
                go_roundg k1
                case measure => have := HK1.out; omega
                case rel => exact ⟨(wrap64 (x10_1 + 1)), (by first | rfl | (simp; done) | (simp [*]; done)), H', ⟨by have := HK1.out; omega⟩, ⟨by repeat (first | (with_reducible first | exact HB.out | apply below_alloc | apply pw_below_drewN | apply below_drew1 | refine below_set ?_ GE105.out) | exact HB.out)⟩⟩
              · replace c7 := Bool.eq_false_iff.mpr c7
                subst c7
                have H1 : (some false) = some r := by rw [if_neg (show ¬ (false = true) by decide)] at H; exact H
                clear H
                have H := H1
                clear H1
                obtain rfl := Option.some.inj H
                have p104 : 0 ≤ (x10_1 : Int) := of_decide_eq_true (by first | (with_reducible assumption) | assumption)
                have q104 : x10_1 < (l0.length : Int) := of_decide_eq_true (by first | (with_reducible assumption) | assumption)
                obtain ⟨ad104, A104_1, c104_1, e104, hx104_0, hx104_1, hx104_2, hl104_1, hi104_1⟩ := at_T29 HR0.out x10_1 p104 q104
                cases e104
                replace hx104_0 := (HB.out.cell (World.block_lt_of_cell? w _ hx104_0)).trans hx104_0
                replace hx104_1 := (HB.out.cell (World.block_lt_of_cell? w _ hx104_1)).trans hx104_1
                replace hx104_2 := (HB.out.cell (World.block_lt_of_cell? w _ hx104_2)).trans hx104_2
                have HR104_1 := Aside0.mk hi104_1
                have HC104_1 := Aside0.mk hl104_1
                clear hi104_1 hl104_1
                replace p104 := eq_true p104
                replace q104 := eq_true q104
                go_wp2_with (first | ((with_reducible refine gate_dst (N := 4) rfl ?_); refine box_event ?hg (N := 4) ?hd (cs := #[.int .i64 0, .slice none 0 0, .bool false]) (t := 29) ?hr ?_; (case hd => rfl); (case hg => rfl); (case hr => first | (go_simp; done) | (go_simp; rfl)); intro gb105 hg w11 hbox hb; have n0_ := Aside0.mk (below_step (by repeat (first | (with_reducible first | exact HB.out | apply below_alloc | apply pw_below_drewN | apply below_drew1) | exact HB.out)) hb); have n1_ := Aside0.mk (hbox); have n2_ := Aside0.mk ((by rw [hg]; exact (below_size (by repeat (first | (with_reducible first | exact HB.out | apply below_alloc | apply pw_below_drewN | apply below_drew1) | exact HB.out))) : w.heap.size ≤ gb105)); have n3_ := Aside0.mk ((by rw [hg]; exact (below_size (by repeat (first | (with_reducible first | exact HB.out | apply below_alloc | apply pw_below_drewN | apply below_drew1) | exact HB.out))) : w.heap.size ≤ gb105)); clear HB; have HB := n0_; have BK105 := n1_; have GW105 := n2_; have GE105 := n3_; clear n0_ n1_ n2_ n3_; clear hb hbox hg; have hcz12_0 : w11.cell? ⟨gb105, 0, none⟩ = some (.int .i64 0) := (blk_cell BK105.out 0).trans rfl; have hcz12_1 : w11.cell? ⟨gb105, 1, none⟩ = some (.slice none 0 0) := (blk_cell BK105.out 1).trans rfl; have hcz12_2 : w11.cell? ⟨gb105, 2, none⟩ = some (.bool false) := (blk_cell BK105.out 2).trans rfl; have hfz12_0 := blk_frozen BK105.out 0; have hfz12_1 := blk_frozen BK105.out 1; have hfz12_2 := blk_frozen BK105.out 2) | ((with_reducible refine gate_callee (f := 9) rfl ?_); refine goesL_ (some 15) rfl rfl Tryd.func9 (by kernel_rfl) rfl #[.agg #[.int .i64 ((rd_T29 l0 x10_1).f0), .slice A104_1 ((rd_T29 l0 x10_1).f1).length c104_1, .bool ((rd_T29 l0 x10_1).f2)]] rfl (by (try simp only [List.map_toArray, List.map_cons, List.map_nil]); first | done | rfl | (simp only [List.length_drop, List.length_take]; rfl)) ?_; (with_reducible refine (laws_zzFits2.calls k1 ((rd_T29 l0 x10_1).f0) _ _ ((rd_T29 l0 x10_1).f1) ((rd_T29 l0 x10_1).f2) false _ ?side1 ?side2 A6.out).mono ?_); (case side1 => exact Kd.C_below HR104_1.out (by repeat (first | (with_reducible first | exact HB.out | apply below_alloc | apply pw_below_drewN | apply below_drew1 | refine below_set ?_ GE105.out) | exact HB.out))); (case side2 => exact HC104_1.out); rintro e w13 ⟨rfl, hb⟩; refine ⟨_, rfl, ?_⟩; have n0_ := Aside0.mk (blk_below (g := gb105) (o := .cells #[.int .i64 ((rd_T29 l0 x10_1).f0), .slice A104_1 ((rd_T29 l0 x10_1).f1).length c104_1, .bool ((rd_T29 l0 x10_1).f2)] 29 (0, 0)) (by (with_reducible repeat (first | refine blk_drewN ?_ _ | refine blk_drew ?_ | refine blk_alloc ?_ _)); refine blk_put (cs := #[.int .i64 ((rd_T29 l0 x10_1).f0), .slice A104_1 ((rd_T29 l0 x10_1).f1).length c104_1, .bool false]) ?_ 2 _ rfl; (with_reducible repeat (first | refine blk_drewN ?_ _ | refine blk_drew ?_ | refine blk_alloc ?_ _)); refine blk_put (cs := #[.int .i64 ((rd_T29 l0 x10_1).f0), .slice none 0 0, .bool false]) ?_ 1 _ rfl; (with_reducible repeat (first | refine blk_drewN ?_ _ | refine blk_drew ?_ | refine blk_alloc ?_ _)); refine blk_put (cs := #[.int .i64 0, .slice none 0 0, .bool false]) ?_ 0 _ rfl; (with_reducible repeat (first | refine blk_drewN ?_ _ | refine blk_drew ?_ | refine blk_alloc ?_ _)); exact BK105.out) hb); have n1_ := Aside0.mk (below_step (by repeat (first | (with_reducible first | exact HB.out | apply below_alloc | apply pw_below_drewN | apply below_drew1 | refine below_set ?_ GE105.out) | exact HB.out)) hb); clear BK105; clear HB; have BK105 := n0_; have HB := n1_; clear n0_ n1_; (try clear hb); (try clear hb2); (try clear hk); (try clear hi)))
                go_ret
                exact ⟨by first | rfl | (simp [errW_none, errW_some] <;> rfl) | (simp [*, errW_none, errW_some] <;> rfl), by repeat (first | (with_reducible first | exact HB.out | apply below_alloc | apply pw_below_drewN | apply below_drew1 | refine below_set ?_ GE105.out) | exact HB.out)⟩
            · rw [if_neg c5] at H
              exact absurd H (by simp)
          · rw [if_neg c4] at H
            exact absurd H (by simp)
        · rw [if_neg c3] at H
          have c3b0 : decide (x10_1 < (l0.length : Int)) = false := decide_eq_false c3
          clear c3
          obtain rfl := Option.some.inj H
          go_wp2
          go_ret
          exact ⟨by first | rfl | (simp [errW_none, errW_some] <;> rfl) | (simp [*, errW_none, errW_some] <;> rfl), by repeat (first | (with_reducible first | exact HB.out | apply below_alloc | apply pw_below_drewN | apply below_drew1) | exact HB.out)⟩

/-! ### spec_wordOk: function 22 -/
def spec_wordOk.l0 : Nat → ByteArray → Bool → Int → Option (Bool)
  | 0, _, _, _ => none
  | k + 1, x0, x3, x4 => if x4 < (x0.size : Int) then (if 0 ≤ x4 then (if (bt x0 x4) ≥ 97 then (if (bt x0 x4) ≤ 122 then (if x3 = true then (if x4 = 0 then (spec_wordOk.l0 k x0 true (wrap64 (x4 + 1))) else (if (bt x0 x4) ≥ 48 then (spec_wordOk.l0 k x0 (decide ((bt x0 x4) ≤ 57)) (wrap64 (x4 + 1))) else (spec_wordOk.l0 k x0 false (wrap64 (x4 + 1))))) else (spec_wordOk.l0 k x0 false (wrap64 (x4 + 1)))) else (if (bt x0 x4) ≥ 48 then (if (bt x0 x4) ≤ 57 then (if x4 > 0 then (if x3 = true then (if x4 = 0 then (spec_wordOk.l0 k x0 true (wrap64 (x4 + 1))) else (spec_wordOk.l0 k x0 (decide ((bt x0 x4) ≤ 57)) (wrap64 (x4 + 1)))) else (spec_wordOk.l0 k x0 false (wrap64 (x4 + 1)))) else (some false)) else (some false)) else (some false))) else (if (bt x0 x4) ≥ 48 then (if (bt x0 x4) ≤ 57 then (if x4 > 0 then (if x3 = true then (if x4 = 0 then (spec_wordOk.l0 k x0 true (wrap64 (x4 + 1))) else (spec_wordOk.l0 k x0 (decide ((bt x0 x4) ≤ 57)) (wrap64 (x4 + 1)))) else (spec_wordOk.l0 k x0 false (wrap64 (x4 + 1)))) else (some false)) else (some false)) else (some false))) else (none)) else (if (x0.size : Int) > 1 then (if 0 < (x0.size : Int) then (if (bt x0 0) = 118 then (if x3 = true then (if (x0.size : Int) = 2 then (if 1 < (x0.size : Int) then (some (decide ((bt x0 1) ≥ 50))) else (none)) else (some false)) else (if (x0.size : Int) > 0 then (some (decide ((x0.size : Int) ≤ 12))) else (some false))) else (if (x0.size : Int) > 0 then (some (decide ((x0.size : Int) ≤ 12))) else (some false))) else (none)) else (if (x0.size : Int) > 0 then (some (decide ((x0.size : Int) ≤ 12))) else (some false)))
def spec_wordOk.f (k : Nat) (a0 : ByteArray) : Option (Bool) := spec_wordOk.l0 k a0 true 0
theorem spec_wordOk.mono_l : ∀ k, (∀ y0 y1 y2, LeO (spec_wordOk.l0 k y0 y1 y2) (spec_wordOk.l0 (k + 1) y0 y1 y2))
  | 0 => fun _ _ _ r h => by simp [spec_wordOk.l0] at h
  | k + 1 => by
    have ih0 := spec_wordOk.mono_l k
    · intro y0 y1 y2
      unfold spec_wordOk.l0
      repeat' first
      | (with_reducible exact ih0 _ _ _)
      | (with_reducible exact LeO.refl _)
      | (with_reducible exact LeO.none _)
      | (with_reducible refine LeO.ite ?_ ?_)
      | (with_reducible refine LeO.bind ?_ (fun _ => ?_))
      | exact ih0 _ _ _
      | exact LeO.none _
      | refine LeO.ite ?_ ?_
      | refine LeO.bind ?_ (fun _ => ?_)
theorem spec_wordOk.mono : ∀ a0 k, LeO (spec_wordOk.f k a0) (spec_wordOk.f (k + 1) a0) := by
  intro a0 k
  have ih0 := spec_wordOk.mono_l k
  unfold spec_wordOk.f
  repeat' first
      | (with_reducible exact ih0 _ _ _)
      | (with_reducible exact LeO.refl _)
      | (with_reducible exact LeO.none _)
      | (with_reducible refine LeO.ite ?_ ?_)
      | (with_reducible refine LeO.bind ?_ (fun _ => ?_))
      | exact ih0 _ _ _
      | exact LeO.none _
      | refine LeO.ite ?_ ?_
      | refine LeO.bind ?_ (fun _ => ?_)
set_option maxHeartbeats 8000000 in
set_option maxRecDepth 100000 in
theorem spec_wordOk.calls (k : Nat) (a0 : ByteArray) (r : Bool) (w : World) (h : spec_wordOk.f k a0 = some r) :
    Calls Tryd.prog 22 #[.string a0] w fun e w' => e = .returned (.bool r) ∧ Drawn0 w w' := by
  have H : (spec_wordOk.l0 k a0 true 0) = some r := h
  clear h
  have H' := Aside0.mk H
  clear H
  go_enter Tryd.func22, Tryd.ntmps22
  go_wp2
  go_loopg [3, 4] k (fun kq v3 v4 w' => ∃ (x3_1 : Bool) (x4_1 : Int), v3 = .bool x3_1 ∧ v4 = .int .i64 x4_1 ∧ Aside0 (spec_wordOk.l0 kq a0 x3_1 x4_1 = some r) ∧ Aside0 (kq ≤ k) ∧ Drawn0 w w')
  case atStart => exact ⟨(true), (0), (by first | rfl | (simp; done) | (simp [*]; done)), (by first | rfl | (simp; done) | (simp [*]; done)), H', ⟨Nat.le_refl _⟩, by repeat (first | exact Drawn0.refl _ | apply Drawn0.step)⟩
  case round =>
    clear H'
    obtain ⟨x3_1, x4_1, rfl, rfl, HA, HK1, ⟨m1, rfl⟩⟩ := hrel
    cases gk with
    | zero => exact absurd HA.out (by simp [spec_wordOk.l0])
    | succ k1 =>
      have H := HA.out
      clear HA
      simp only [spec_wordOk.l0] at H
      by_cases c2 : x4_1 < (a0.size : Int)
      · rw [if_pos c2] at H
        have c2b0 : decide (x4_1 < (a0.size : Int)) = true := decide_eq_true c2
        clear c2
        by_cases c3 : 0 ≤ x4_1
        · rw [if_pos c3] at H
          have c3b0 : decide (0 ≤ x4_1) = true := decide_eq_true c3
          clear c3
          by_cases c5 : (bt a0 x4_1) ≥ 97
          · rw [if_pos c5] at H
            have c5b0 : decide (97 ≤ (bt a0 x4_1)) = true := decide_eq_true c5
            clear c5
            by_cases c6 : (bt a0 x4_1) ≤ 122
            · rw [if_pos c6] at H
              have c6b0 : decide ((bt a0 x4_1) ≤ 122) = true := decide_eq_true c6
              clear c6
              by_cases c7 : x3_1 = true
              · subst c7
                have H1 : (if x4_1 = 0 then (spec_wordOk.l0 k1 a0 true (wrap64 (x4_1 + 1))) else (if (bt a0 x4_1) ≥ 48 then (spec_wordOk.l0 k1 a0 (decide ((bt a0 x4_1) ≤ 57)) (wrap64 (x4_1 + 1))) else (spec_wordOk.l0 k1 a0 false (wrap64 (x4_1 + 1))))) = some r := by rw [if_pos rfl] at H; exact H
                clear H
                have H := H1
                clear H1
                by_cases c8 : x4_1 = 0
                · rw [if_pos c8] at H
                  have c8b0 : (x4_1 == 0) = true := beq_iff_eq.mpr c8
                  have c8b1 : (x4_1 != 0) = false := bne_eq_false_iff_eq.mpr c8
                  clear c8
                  have H' := Aside0.mk H
                  clear H
                  have p4 : 0 ≤ (x4_1 : Int) := of_decide_eq_true (by first | (with_reducible assumption) | assumption)
                  have q4 : x4_1 < (a0.size : Int) := of_decide_eq_true (by first | (with_reducible assumption) | assumption)
                  have hx4 := bt_at a0 x4_1
                  replace p4 := eq_true p4
                  replace q4 := eq_true q4
                  go_wp2
                  go_roundg k1
                  case measure => have := HK1.out; omega
                  case rel => exact ⟨(true), (wrap64 (x4_1 + 1)), (by first | rfl | (simp; done) | (simp [*]; done)), (by first | rfl | (simp; done) | (simp [*]; done)), H', ⟨by have := HK1.out; omega⟩, by repeat (first | exact Drawn0.refl _ | apply Drawn0.step)⟩
                · rw [if_neg c8] at H
                  have c8b0 : (x4_1 == 0) = false := beq_eq_false_iff_ne.mpr c8
                  have c8b1 : (x4_1 != 0) = true := bne_iff_ne.mpr c8
                  by_cases c9 : (bt a0 x4_1) ≥ 48
                  · rw [if_pos c9] at H
                    have c9b0 : decide (48 ≤ (bt a0 x4_1)) = true := decide_eq_true c9
                    clear c9
                    have H' := Aside0.mk H
                    clear H
                    have p4 : 0 ≤ (x4_1 : Int) := of_decide_eq_true (by first | (with_reducible assumption) | assumption)
                    have q4 : x4_1 < (a0.size : Int) := of_decide_eq_true (by first | (with_reducible assumption) | assumption)
                    have hx4 := bt_at a0 x4_1
                    replace p4 := eq_true p4
                    replace q4 := eq_true q4
                    go_wp2
                    go_roundg k1
                    case measure => have := HK1.out; omega
                    case rel => exact ⟨(decide ((bt a0 x4_1) ≤ 57)), (wrap64 (x4_1 + 1)), (by first | rfl | (simp; done) | (simp [*]; done)), (by first | rfl | (simp; done) | (simp [*]; done)), H', ⟨by have := HK1.out; omega⟩, by repeat (first | exact Drawn0.refl _ | apply Drawn0.step)⟩
                  · rw [if_neg c9] at H
                    have c9b0 : decide (48 ≤ (bt a0 x4_1)) = false := decide_eq_false c9
                    clear c9
                    have H' := Aside0.mk H
                    clear H
                    have p4 : 0 ≤ (x4_1 : Int) := of_decide_eq_true (by first | (with_reducible assumption) | assumption)
                    have q4 : x4_1 < (a0.size : Int) := of_decide_eq_true (by first | (with_reducible assumption) | assumption)
                    have hx4 := bt_at a0 x4_1
                    replace p4 := eq_true p4
                    replace q4 := eq_true q4
                    go_wp2
                    go_roundg k1
                    case measure => have := HK1.out; omega
                    case rel => exact ⟨(false), (wrap64 (x4_1 + 1)), (by first | rfl | (simp; done) | (simp [*]; done)), (by first | rfl | (simp; done) | (simp [*]; done)), H', ⟨by have := HK1.out; omega⟩, by repeat (first | exact Drawn0.refl _ | apply Drawn0.step)⟩
              · replace c7 := Bool.eq_false_iff.mpr c7
                subst c7
                have H1 : (spec_wordOk.l0 k1 a0 false (wrap64 (x4_1 + 1))) = some r := by rw [if_neg (show ¬ (false = true) by decide)] at H; exact H
                clear H
                have H := H1
                clear H1
                have H' := Aside0.mk H
                clear H
                have p4 : 0 ≤ (x4_1 : Int) := of_decide_eq_true (by first | (with_reducible assumption) | assumption)
                have q4 : x4_1 < (a0.size : Int) := of_decide_eq_true (by first | (with_reducible assumption) | assumption)
                have hx4 := bt_at a0 x4_1
                replace p4 := eq_true p4
                replace q4 := eq_true q4
                go_wp2
                go_roundg k1
                case measure => have := HK1.out; omega
                case rel => exact ⟨(false), (wrap64 (x4_1 + 1)), (by first | rfl | (simp; done) | (simp [*]; done)), (by first | rfl | (simp; done) | (simp [*]; done)), H', ⟨by have := HK1.out; omega⟩, by repeat (first | exact Drawn0.refl _ | apply Drawn0.step)⟩
            · rw [if_neg c6] at H
              have c6b0 : decide ((bt a0 x4_1) ≤ 122) = false := decide_eq_false c6
              clear c6
              by_cases c10 : (bt a0 x4_1) ≥ 48
              · rw [if_pos c10] at H
                have c10b0 : decide (48 ≤ (bt a0 x4_1)) = true := decide_eq_true c10
                clear c10
                by_cases c11 : (bt a0 x4_1) ≤ 57
                · rw [if_pos c11] at H
                  have c11b0 : decide ((bt a0 x4_1) ≤ 57) = true := decide_eq_true c11
                  clear c11
                  by_cases c12 : x4_1 > 0
                  · rw [if_pos c12] at H
                    have c12b0 : decide (0 < x4_1) = true := decide_eq_true c12
                    clear c12
                    by_cases c13 : x3_1 = true
                    · subst c13
                      have H1 : (if x4_1 = 0 then (spec_wordOk.l0 k1 a0 true (wrap64 (x4_1 + 1))) else (spec_wordOk.l0 k1 a0 (decide ((bt a0 x4_1) ≤ 57)) (wrap64 (x4_1 + 1)))) = some r := by rw [if_pos rfl] at H; exact H
                      clear H
                      have H := H1
                      clear H1
                      by_cases c14 : x4_1 = 0
                      · rw [if_pos c14] at H
                        have c14b0 : (x4_1 == 0) = true := beq_iff_eq.mpr c14
                        have c14b1 : (x4_1 != 0) = false := bne_eq_false_iff_eq.mpr c14
                        clear c14
                        have H' := Aside0.mk H
                        clear H
                        have p4 : 0 ≤ (x4_1 : Int) := of_decide_eq_true (by first | (with_reducible assumption) | assumption)
                        have q4 : x4_1 < (a0.size : Int) := of_decide_eq_true (by first | (with_reducible assumption) | assumption)
                        have hx4 := bt_at a0 x4_1
                        replace p4 := eq_true p4
                        replace q4 := eq_true q4
                        go_wp2
                        go_roundg k1
                        case measure => have := HK1.out; omega
                        case rel => exact ⟨(true), (wrap64 (x4_1 + 1)), (by first | rfl | (simp; done) | (simp [*]; done)), (by first | rfl | (simp; done) | (simp [*]; done)), H', ⟨by have := HK1.out; omega⟩, by repeat (first | exact Drawn0.refl _ | apply Drawn0.step)⟩
                      · rw [if_neg c14] at H
                        have c14b0 : (x4_1 == 0) = false := beq_eq_false_iff_ne.mpr c14
                        have c14b1 : (x4_1 != 0) = true := bne_iff_ne.mpr c14
                        have H' := Aside0.mk H
                        clear H
                        have p4 : 0 ≤ (x4_1 : Int) := of_decide_eq_true (by first | (with_reducible assumption) | assumption)
                        have q4 : x4_1 < (a0.size : Int) := of_decide_eq_true (by first | (with_reducible assumption) | assumption)
                        have hx4 := bt_at a0 x4_1
                        replace p4 := eq_true p4
                        replace q4 := eq_true q4
                        go_wp2
                        go_roundg k1
                        case measure => have := HK1.out; omega
                        case rel => exact ⟨(decide ((bt a0 x4_1) ≤ 57)), (wrap64 (x4_1 + 1)), (by first | rfl | (simp; done) | (simp [*]; done)), (by first | rfl | (simp; done) | (simp [*]; done)), H', ⟨by have := HK1.out; omega⟩, by repeat (first | exact Drawn0.refl _ | apply Drawn0.step)⟩
                    · replace c13 := Bool.eq_false_iff.mpr c13
                      subst c13
                      have H1 : (spec_wordOk.l0 k1 a0 false (wrap64 (x4_1 + 1))) = some r := by rw [if_neg (show ¬ (false = true) by decide)] at H; exact H
                      clear H
                      have H := H1
                      clear H1
                      have H' := Aside0.mk H
                      clear H
                      have p4 : 0 ≤ (x4_1 : Int) := of_decide_eq_true (by first | (with_reducible assumption) | assumption)
                      have q4 : x4_1 < (a0.size : Int) := of_decide_eq_true (by first | (with_reducible assumption) | assumption)
                      have hx4 := bt_at a0 x4_1
                      replace p4 := eq_true p4
                      replace q4 := eq_true q4
                      go_wp2
                      go_roundg k1
                      case measure => have := HK1.out; omega
                      case rel => exact ⟨(false), (wrap64 (x4_1 + 1)), (by first | rfl | (simp; done) | (simp [*]; done)), (by first | rfl | (simp; done) | (simp [*]; done)), H', ⟨by have := HK1.out; omega⟩, by repeat (first | exact Drawn0.refl _ | apply Drawn0.step)⟩
                  · rw [if_neg c12] at H
                    have c12b0 : decide (0 < x4_1) = false := decide_eq_false c12
                    clear c12
                    obtain rfl := Option.some.inj H
                    have p4 : 0 ≤ (x4_1 : Int) := of_decide_eq_true (by first | (with_reducible assumption) | assumption)
                    have q4 : x4_1 < (a0.size : Int) := of_decide_eq_true (by first | (with_reducible assumption) | assumption)
                    have hx4 := bt_at a0 x4_1
                    replace p4 := eq_true p4
                    replace q4 := eq_true q4
                    go_wp2
                    go_ret
                    exact ⟨by first | rfl | (simp; done) | (simp [*]; done), by repeat (first | exact Drawn0.refl _ | apply Drawn0.step)⟩
                · rw [if_neg c11] at H
                  have c11b0 : decide ((bt a0 x4_1) ≤ 57) = false := decide_eq_false c11
                  clear c11
                  obtain rfl := Option.some.inj H
                  have p4 : 0 ≤ (x4_1 : Int) := of_decide_eq_true (by first | (with_reducible assumption) | assumption)
                  have q4 : x4_1 < (a0.size : Int) := of_decide_eq_true (by first | (with_reducible assumption) | assumption)
                  have hx4 := bt_at a0 x4_1
                  replace p4 := eq_true p4
                  replace q4 := eq_true q4
                  go_wp2
                  go_ret
                  exact ⟨by first | rfl | (simp; done) | (simp [*]; done), by repeat (first | exact Drawn0.refl _ | apply Drawn0.step)⟩
              · rw [if_neg c10] at H
                have c10b0 : decide (48 ≤ (bt a0 x4_1)) = false := decide_eq_false c10
                clear c10
                obtain rfl := Option.some.inj H
                have p4 : 0 ≤ (x4_1 : Int) := of_decide_eq_true (by first | (with_reducible assumption) | assumption)
                have q4 : x4_1 < (a0.size : Int) := of_decide_eq_true (by first | (with_reducible assumption) | assumption)
                have hx4 := bt_at a0 x4_1
                replace p4 := eq_true p4
                replace q4 := eq_true q4
                go_wp2
                go_ret
                exact ⟨by first | rfl | (simp; done) | (simp [*]; done), by repeat (first | exact Drawn0.refl _ | apply Drawn0.step)⟩
          · rw [if_neg c5] at H
            have c5b0 : decide (97 ≤ (bt a0 x4_1)) = false := decide_eq_false c5
            clear c5
            by_cases c15 : (bt a0 x4_1) ≥ 48
            · rw [if_pos c15] at H
              have c15b0 : decide (48 ≤ (bt a0 x4_1)) = true := decide_eq_true c15
              clear c15
              by_cases c16 : (bt a0 x4_1) ≤ 57
              · rw [if_pos c16] at H
                have c16b0 : decide ((bt a0 x4_1) ≤ 57) = true := decide_eq_true c16
                clear c16
                by_cases c17 : x4_1 > 0
                · rw [if_pos c17] at H
                  have c17b0 : decide (0 < x4_1) = true := decide_eq_true c17
                  clear c17
                  by_cases c18 : x3_1 = true
                  · subst c18
                    have H1 : (if x4_1 = 0 then (spec_wordOk.l0 k1 a0 true (wrap64 (x4_1 + 1))) else (spec_wordOk.l0 k1 a0 (decide ((bt a0 x4_1) ≤ 57)) (wrap64 (x4_1 + 1)))) = some r := by rw [if_pos rfl] at H; exact H
                    clear H
                    have H := H1
                    clear H1
                    by_cases c19 : x4_1 = 0
                    · rw [if_pos c19] at H
                      have c19b0 : (x4_1 == 0) = true := beq_iff_eq.mpr c19
                      have c19b1 : (x4_1 != 0) = false := bne_eq_false_iff_eq.mpr c19
                      clear c19
                      have H' := Aside0.mk H
                      clear H
                      have p4 : 0 ≤ (x4_1 : Int) := of_decide_eq_true (by first | (with_reducible assumption) | assumption)
                      have q4 : x4_1 < (a0.size : Int) := of_decide_eq_true (by first | (with_reducible assumption) | assumption)
                      have hx4 := bt_at a0 x4_1
                      replace p4 := eq_true p4
                      replace q4 := eq_true q4
                      go_wp2
                      go_roundg k1
                      case measure => have := HK1.out; omega
                      case rel => exact ⟨(true), (wrap64 (x4_1 + 1)), (by first | rfl | (simp; done) | (simp [*]; done)), (by first | rfl | (simp; done) | (simp [*]; done)), H', ⟨by have := HK1.out; omega⟩, by repeat (first | exact Drawn0.refl _ | apply Drawn0.step)⟩
                    · rw [if_neg c19] at H
                      have c19b0 : (x4_1 == 0) = false := beq_eq_false_iff_ne.mpr c19
                      have c19b1 : (x4_1 != 0) = true := bne_iff_ne.mpr c19
                      have H' := Aside0.mk H
                      clear H
                      have p4 : 0 ≤ (x4_1 : Int) := of_decide_eq_true (by first | (with_reducible assumption) | assumption)
                      have q4 : x4_1 < (a0.size : Int) := of_decide_eq_true (by first | (with_reducible assumption) | assumption)
                      have hx4 := bt_at a0 x4_1
                      replace p4 := eq_true p4
                      replace q4 := eq_true q4
                      go_wp2
                      go_roundg k1
                      case measure => have := HK1.out; omega
                      case rel => exact ⟨(decide ((bt a0 x4_1) ≤ 57)), (wrap64 (x4_1 + 1)), (by first | rfl | (simp; done) | (simp [*]; done)), (by first | rfl | (simp; done) | (simp [*]; done)), H', ⟨by have := HK1.out; omega⟩, by repeat (first | exact Drawn0.refl _ | apply Drawn0.step)⟩
                  · replace c18 := Bool.eq_false_iff.mpr c18
                    subst c18
                    have H1 : (spec_wordOk.l0 k1 a0 false (wrap64 (x4_1 + 1))) = some r := by rw [if_neg (show ¬ (false = true) by decide)] at H; exact H
                    clear H
                    have H := H1
                    clear H1
                    have H' := Aside0.mk H
                    clear H
                    have p4 : 0 ≤ (x4_1 : Int) := of_decide_eq_true (by first | (with_reducible assumption) | assumption)
                    have q4 : x4_1 < (a0.size : Int) := of_decide_eq_true (by first | (with_reducible assumption) | assumption)
                    have hx4 := bt_at a0 x4_1
                    replace p4 := eq_true p4
                    replace q4 := eq_true q4
                    go_wp2
                    go_roundg k1
                    case measure => have := HK1.out; omega
                    case rel => exact ⟨(false), (wrap64 (x4_1 + 1)), (by first | rfl | (simp; done) | (simp [*]; done)), (by first | rfl | (simp; done) | (simp [*]; done)), H', ⟨by have := HK1.out; omega⟩, by repeat (first | exact Drawn0.refl _ | apply Drawn0.step)⟩
                · rw [if_neg c17] at H
                  have c17b0 : decide (0 < x4_1) = false := decide_eq_false c17
                  clear c17
                  obtain rfl := Option.some.inj H
                  have p4 : 0 ≤ (x4_1 : Int) := of_decide_eq_true (by first | (with_reducible assumption) | assumption)
                  have q4 : x4_1 < (a0.size : Int) := of_decide_eq_true (by first | (with_reducible assumption) | assumption)
                  have hx4 := bt_at a0 x4_1
                  replace p4 := eq_true p4
                  replace q4 := eq_true q4
                  go_wp2
                  go_ret
                  exact ⟨by first | rfl | (simp; done) | (simp [*]; done), by repeat (first | exact Drawn0.refl _ | apply Drawn0.step)⟩
              · rw [if_neg c16] at H
                have c16b0 : decide ((bt a0 x4_1) ≤ 57) = false := decide_eq_false c16
                clear c16
                obtain rfl := Option.some.inj H
                have p4 : 0 ≤ (x4_1 : Int) := of_decide_eq_true (by first | (with_reducible assumption) | assumption)
                have q4 : x4_1 < (a0.size : Int) := of_decide_eq_true (by first | (with_reducible assumption) | assumption)
                have hx4 := bt_at a0 x4_1
                replace p4 := eq_true p4
                replace q4 := eq_true q4
                go_wp2
                go_ret
                exact ⟨by first | rfl | (simp; done) | (simp [*]; done), by repeat (first | exact Drawn0.refl _ | apply Drawn0.step)⟩
            · rw [if_neg c15] at H
              have c15b0 : decide (48 ≤ (bt a0 x4_1)) = false := decide_eq_false c15
              clear c15
              obtain rfl := Option.some.inj H
              have p4 : 0 ≤ (x4_1 : Int) := of_decide_eq_true (by first | (with_reducible assumption) | assumption)
              have q4 : x4_1 < (a0.size : Int) := of_decide_eq_true (by first | (with_reducible assumption) | assumption)
              have hx4 := bt_at a0 x4_1
              replace p4 := eq_true p4
              replace q4 := eq_true q4
              go_wp2
              go_ret
              exact ⟨by first | rfl | (simp; done) | (simp [*]; done), by repeat (first | exact Drawn0.refl _ | apply Drawn0.step)⟩
        · rw [if_neg c3] at H
          exact absurd H (by simp)
      · rw [if_neg c2] at H
        have c2b0 : decide (x4_1 < (a0.size : Int)) = false := decide_eq_false c2
        clear c2
        by_cases c20 : (a0.size : Int) > 1
        · rw [if_pos c20] at H
          have c20b0 : decide (1 < (a0.size : Int)) = true := decide_eq_true c20
          have c20b1 : decide (1 < a0.size) = true := decide_eq_true (by omega)
          clear c20
          by_cases c21 : 0 < (a0.size : Int)
          · rw [if_pos c21] at H
            have c21b0 : decide (0 < (a0.size : Int)) = true := decide_eq_true c21
            have c21b1 : decide (0 < a0.size) = true := decide_eq_true (by omega)
            clear c21
            by_cases c23 : (bt a0 0) = 118
            · rw [if_pos c23] at H
              have c23b0 : ((bt a0 0) == 118) = true := beq_iff_eq.mpr c23
              have c23b1 : ((bt a0 0) != 118) = false := bne_eq_false_iff_eq.mpr c23
              clear c23
              by_cases c24 : x3_1 = true
              · subst c24
                have H1 : (if (a0.size : Int) = 2 then (if 1 < (a0.size : Int) then (some (decide ((bt a0 1) ≥ 50))) else (none)) else (some false)) = some r := by rw [if_pos rfl] at H; exact H
                clear H
                have H := H1
                clear H1
                by_cases c25 : (a0.size : Int) = 2
                · rw [if_pos c25] at H
                  have c25b0 : ((a0.size : Int) == 2) = true := beq_iff_eq.mpr c25
                  have c25b1 : ((a0.size : Int) != 2) = false := bne_eq_false_iff_eq.mpr c25
                  clear c25
                  by_cases c26 : 1 < (a0.size : Int)
                  · rw [if_pos c26] at H
                    have c26b0 : decide (1 < (a0.size : Int)) = true := decide_eq_true c26
                    have c26b1 : decide (1 < a0.size) = true := decide_eq_true (by omega)
                    clear c26
                    obtain rfl := Option.some.inj H
                    have p22 : 0 ≤ (0 : Int) := (by omega)
                    have q22 : 0 < a0.size := (by have : (0 : Int) < (a0.size : Int) := of_decide_eq_true (by first | (with_reducible assumption) | assumption); omega)
                    have hx22 : ∀ h : 0 < a0.size, ((a0[0]'h).toNat : Int) = bt a0 0 := bt_at a0 0
                    clear p22
                    have qi22 : (0 < (a0.size : Int)) = True := eq_true (of_decide_eq_true (by first | (with_reducible assumption) | assumption))
                    replace q22 := eq_true q22
                    have p27 : 0 ≤ (1 : Int) := (by omega)
                    have q27 : 1 < a0.size := (by have : (1 : Int) < (a0.size : Int) := of_decide_eq_true (by first | (with_reducible assumption) | assumption); omega)
                    have hx27 : ∀ h : 1 < a0.size, ((a0[1]'h).toNat : Int) = bt a0 1 := bt_at a0 1
                    clear p27
                    have qi27 : (1 < (a0.size : Int)) = True := eq_true (of_decide_eq_true (by first | (with_reducible assumption) | assumption))
                    replace q27 := eq_true q27
                    go_wp2
                    go_ret
                    exact ⟨by first | rfl | (simp; done) | (simp [*]; done), by repeat (first | exact Drawn0.refl _ | apply Drawn0.step)⟩
                  · rw [if_neg c26] at H
                    exact absurd H (by simp)
                · rw [if_neg c25] at H
                  have c25b0 : ((a0.size : Int) == 2) = false := beq_eq_false_iff_ne.mpr c25
                  have c25b1 : ((a0.size : Int) != 2) = true := bne_iff_ne.mpr c25
                  obtain rfl := Option.some.inj H
                  have p22 : 0 ≤ (0 : Int) := (by omega)
                  have q22 : 0 < a0.size := (by have : (0 : Int) < (a0.size : Int) := of_decide_eq_true (by first | (with_reducible assumption) | assumption); omega)
                  have hx22 : ∀ h : 0 < a0.size, ((a0[0]'h).toNat : Int) = bt a0 0 := bt_at a0 0
                  clear p22
                  have qi22 : (0 < (a0.size : Int)) = True := eq_true (of_decide_eq_true (by first | (with_reducible assumption) | assumption))
                  replace q22 := eq_true q22
                  go_wp2
                  go_ret
                  exact ⟨by first | rfl | (simp; done) | (simp [*]; done), by repeat (first | exact Drawn0.refl _ | apply Drawn0.step)⟩
              · replace c24 := Bool.eq_false_iff.mpr c24
                subst c24
                have H1 : (if (a0.size : Int) > 0 then (some (decide ((a0.size : Int) ≤ 12))) else (some false)) = some r := by rw [if_neg (show ¬ (false = true) by decide)] at H; exact H
                clear H
                have H := H1
                clear H1
                by_cases c28 : (a0.size : Int) > 0
                · rw [if_pos c28] at H
                  have c28b0 : decide (0 < (a0.size : Int)) = true := decide_eq_true c28
                  have c28b1 : decide (0 < a0.size) = true := decide_eq_true (by omega)
                  clear c28
                  obtain rfl := Option.some.inj H
                  have p22 : 0 ≤ (0 : Int) := (by omega)
                  have q22 : 0 < a0.size := (by have : (0 : Int) < (a0.size : Int) := of_decide_eq_true (by first | (with_reducible assumption) | assumption); omega)
                  have hx22 : ∀ h : 0 < a0.size, ((a0[0]'h).toNat : Int) = bt a0 0 := bt_at a0 0
                  clear p22
                  have qi22 : (0 < (a0.size : Int)) = True := eq_true (of_decide_eq_true (by first | (with_reducible assumption) | assumption))
                  replace q22 := eq_true q22
                  go_wp2
                  go_ret
                  exact ⟨by first | rfl | (simp; done) | (simp [*]; done), by repeat (first | exact Drawn0.refl _ | apply Drawn0.step)⟩
                · rw [if_neg c28] at H
                  have c28b0 : decide (0 < (a0.size : Int)) = false := decide_eq_false c28
                  have c28b1 : decide (0 < a0.size) = false := decide_eq_false (by omega)
                  exact absurd (of_decide_eq_true (by assumption : decide (0 < a0.size) = true)) (of_decide_eq_false c28b1)
            · rw [if_neg c23] at H
              have c23b0 : ((bt a0 0) == 118) = false := beq_eq_false_iff_ne.mpr c23
              have c23b1 : ((bt a0 0) != 118) = true := bne_iff_ne.mpr c23
              by_cases c29 : (a0.size : Int) > 0
              · rw [if_pos c29] at H
                have c29b0 : decide (0 < (a0.size : Int)) = true := decide_eq_true c29
                have c29b1 : decide (0 < a0.size) = true := decide_eq_true (by omega)
                clear c29
                obtain rfl := Option.some.inj H
                have p22 : 0 ≤ (0 : Int) := (by omega)
                have q22 : 0 < a0.size := (by have : (0 : Int) < (a0.size : Int) := of_decide_eq_true (by first | (with_reducible assumption) | assumption); omega)
                have hx22 : ∀ h : 0 < a0.size, ((a0[0]'h).toNat : Int) = bt a0 0 := bt_at a0 0
                clear p22
                have qi22 : (0 < (a0.size : Int)) = True := eq_true (of_decide_eq_true (by first | (with_reducible assumption) | assumption))
                replace q22 := eq_true q22
                go_wp2
                go_ret
                exact ⟨by first | rfl | (simp; done) | (simp [*]; done), by repeat (first | exact Drawn0.refl _ | apply Drawn0.step)⟩
              · rw [if_neg c29] at H
                have c29b0 : decide (0 < (a0.size : Int)) = false := decide_eq_false c29
                have c29b1 : decide (0 < a0.size) = false := decide_eq_false (by omega)
                exact absurd (of_decide_eq_true (by assumption : decide (0 < a0.size) = true)) (of_decide_eq_false c29b1)
          · rw [if_neg c21] at H
            exact absurd H (by simp)
        · rw [if_neg c20] at H
          have c20b0 : decide (1 < (a0.size : Int)) = false := decide_eq_false c20
          have c20b1 : decide (1 < a0.size) = false := decide_eq_false (by omega)
          clear c20
          by_cases c30 : (a0.size : Int) > 0
          · rw [if_pos c30] at H
            have c30b0 : decide (0 < (a0.size : Int)) = true := decide_eq_true c30
            have c30b1 : decide (0 < a0.size) = true := decide_eq_true (by omega)
            clear c30
            obtain rfl := Option.some.inj H
            go_wp2
            go_ret
            exact ⟨by first | rfl | (simp; done) | (simp [*]; done), by repeat (first | exact Drawn0.refl _ | apply Drawn0.step)⟩
          · rw [if_neg c30] at H
            have c30b0 : decide (0 < (a0.size : Int)) = false := decide_eq_false c30
            have c30b1 : decide (0 < a0.size) = false := decide_eq_false (by omega)
            clear c30
            obtain rfl := Option.some.inj H
            go_wp2
            go_ret
            exact ⟨by first | rfl | (simp; done) | (simp [*]; done), by repeat (first | exact Drawn0.refl _ | apply Drawn0.step)⟩

end Go.Proofs.YtikgnlgmidbclaaDoor.PFnModulePath
