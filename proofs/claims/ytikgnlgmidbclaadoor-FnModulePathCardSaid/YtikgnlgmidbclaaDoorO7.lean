/- A printed text, its imports thinned. (Began as the kit's print.) -/
import Derived.Test.YtikgnlgmidbclaaDoorO0
namespace Go.Proofs.YtikgnlgmidbclaaDoor.PFnModulePath
open Go.RowKit Go.Proofs.YtikgnlgmidbclaaDoorW.PrintWords Go.Proofs.YtikgnlgmidbclaaDoorW.PrintLast Go.Proofs.YtikgnlgmidbclaaDoorW.PrintMore
attribute [local go_sem] max2_int min2_int max_two min_two max_three min_three max_four min_four   -- for this text's walks alone
set_option linter.unusedVariables false
set_option linter.unusedSimpArgs false

/-! ### spec_spread: function 14 -/
mutual
def spec_spread.j0 : Nat → ByteArray → ByteArray → Bool → List Int → Bool → Option (ByteArray)
  | 0, _, _, _, _, _ => none
  | k + 1, x0, x1, x2, x7, x8 => spec_spread.l0 k x0 x1 x2 x7 x8 0
def spec_spread.l0 : Nat → ByteArray → ByteArray → Bool → List Int → Bool → Int → Option (ByteArray)
  | 0, _, _, _, _, _, _ => none
  | k + 1, x0, x1, x2, x7, x8, x9 => if x9 < (x0.size : Int) then (if 0 ≤ x9 then (if (bt x0 x9) = 47 then (if (wrap64 (x9 + 1)) < (x0.size : Int) then (if 0 ≤ (wrap64 (x9 + 1)) then (spec_spread.j2 k x0 x1 x2 x7 x8 x9 ((bt x0 (wrap64 (x9 + 1))) == 47)) else (none)) else (spec_spread.j2 k x0 x1 x2 x7 x8 x9 false)) else (spec_spread.j2 k x0 x1 x2 x7 x8 x9 false)) else (none)) else (if x8 = true then (if x2 = true then (if x7.length < 140737488355328 then (some (strOfNums (x7 ++ [34]))) else (none)) else (some (strOfNums x7))) else (some (strOfNums x7)))
def spec_spread.j2 : Nat → ByteArray → ByteArray → Bool → List Int → Bool → Int → Bool → Option (ByteArray)
  | 0, _, _, _, _, _, _, _ => none
  | k + 1, x0, x1, x2, x7, x8, x9, x38 => if x38 = true then (if 0 ≤ x9 then (if x9 ≤ (x0.size : Int) then (if x7.length + (x0.extract (x9 : Int).toNat x0.size).size < 140737488355328 then (some (strOfNums (x7 ++ bytesOf (x0.extract (x9 : Int).toNat x0.size)))) else (none)) else (none)) else (none)) else (if 0 ≤ x9 then (if x9 < (x0.size : Int) then (if (bt x0 x9) = 32 then (if x8 = true then (if x2 = true then (if x7.length < 140737488355328 then ((some (x7 ++ [34] : List Int)).bind fun y285 => (if y285.length + x1.size < 140737488355328 then (spec_spread.l0 k x0 x1 x2 (y285 ++ bytesOf x1) false (wrap64 (x9 + 1))) else (none))) else (none)) else (if x7.length + x1.size < 140737488355328 then (spec_spread.l0 k x0 x1 x2 (x7 ++ bytesOf x1) false (wrap64 (x9 + 1))) else (none))) else (if x7.length + x1.size < 140737488355328 then (spec_spread.l0 k x0 x1 x2 (x7 ++ bytesOf x1) false (wrap64 (x9 + 1))) else (none))) else (if x7.length < 140737488355328 then (spec_spread.l0 k x0 x1 x2 (x7 ++ [bt x0 x9]) x8 (wrap64 (x9 + 1))) else (none))) else (none)) else (none))
end
def spec_spread.f (k : Nat) (a0 : ByteArray) (a1 : ByteArray) (a2 : Bool) : Option (ByteArray) := (some (([] : List Int) : List Int)).bind fun y273 => (if a2 = true then (if y273.length < 140737488355328 then (spec_spread.j0 k a0 a1 a2 (y273 ++ [34]) true) else (none)) else (spec_spread.j0 k a0 a1 a2 y273 true))
theorem spec_spread.mono_l : ∀ k, (∀ y0 y1 y2 y3 y4, LeO (spec_spread.j0 k y0 y1 y2 y3 y4) (spec_spread.j0 (k + 1) y0 y1 y2 y3 y4)) ∧ (∀ y0 y1 y2 y3 y4 y5, LeO (spec_spread.l0 k y0 y1 y2 y3 y4 y5) (spec_spread.l0 (k + 1) y0 y1 y2 y3 y4 y5)) ∧ (∀ y0 y1 y2 y3 y4 y5 y6, LeO (spec_spread.j2 k y0 y1 y2 y3 y4 y5 y6) (spec_spread.j2 (k + 1) y0 y1 y2 y3 y4 y5 y6))
  | 0 => ⟨fun _ _ _ _ _ r h => by simp [spec_spread.j0] at h, fun _ _ _ _ _ _ r h => by simp [spec_spread.l0] at h, fun _ _ _ _ _ _ _ r h => by simp [spec_spread.j2] at h⟩
  | k + 1 => by
    obtain ⟨ih0, ih1, ih2⟩ := spec_spread.mono_l k
    refine ⟨?_, ?_, ?_⟩
    · intro y0 y1 y2 y3 y4
      unfold spec_spread.j0
      repeat' first
      | (with_reducible exact ih0 _ _ _ _ _)
      | (with_reducible exact ih1 _ _ _ _ _ _)
      | (with_reducible exact ih2 _ _ _ _ _ _ _)
      | (with_reducible exact LeO.refl _)
      | (with_reducible exact LeO.none _)
      | (with_reducible refine LeO.ite ?_ ?_)
      | (with_reducible refine LeO.bind ?_ (fun _ => ?_))
      | exact ih0 _ _ _ _ _
      | exact ih1 _ _ _ _ _ _
      | exact ih2 _ _ _ _ _ _ _
      | exact LeO.none _
      | refine LeO.ite ?_ ?_
      | refine LeO.bind ?_ (fun _ => ?_)
    · intro y0 y1 y2 y3 y4 y5
      unfold spec_spread.l0
      repeat' first
      | (with_reducible exact ih0 _ _ _ _ _)
      | (with_reducible exact ih1 _ _ _ _ _ _)
      | (with_reducible exact ih2 _ _ _ _ _ _ _)
      | (with_reducible exact LeO.refl _)
      | (with_reducible exact LeO.none _)
      | (with_reducible refine LeO.ite ?_ ?_)
      | (with_reducible refine LeO.bind ?_ (fun _ => ?_))
      | exact ih0 _ _ _ _ _
      | exact ih1 _ _ _ _ _ _
      | exact ih2 _ _ _ _ _ _ _
      | exact LeO.none _
      | refine LeO.ite ?_ ?_
      | refine LeO.bind ?_ (fun _ => ?_)
    · intro y0 y1 y2 y3 y4 y5 y6
      unfold spec_spread.j2
      repeat' first
      | (with_reducible exact ih0 _ _ _ _ _)
      | (with_reducible exact ih1 _ _ _ _ _ _)
      | (with_reducible exact ih2 _ _ _ _ _ _ _)
      | (with_reducible exact LeO.refl _)
      | (with_reducible exact LeO.none _)
      | (with_reducible refine LeO.ite ?_ ?_)
      | (with_reducible refine LeO.bind ?_ (fun _ => ?_))
      | exact ih0 _ _ _ _ _
      | exact ih1 _ _ _ _ _ _
      | exact ih2 _ _ _ _ _ _ _
      | exact LeO.none _
      | refine LeO.ite ?_ ?_
      | refine LeO.bind ?_ (fun _ => ?_)
theorem spec_spread.mono : ∀ a0 a1 a2 k, LeO (spec_spread.f k a0 a1 a2) (spec_spread.f (k + 1) a0 a1 a2) := by
  intro a0 a1 a2 k
  obtain ⟨ih0, ih1, ih2⟩ := spec_spread.mono_l k
  unfold spec_spread.f
  repeat' first
      | (with_reducible exact ih0 _ _ _ _ _)
      | (with_reducible exact ih1 _ _ _ _ _ _)
      | (with_reducible exact ih2 _ _ _ _ _ _ _)
      | (with_reducible exact LeO.refl _)
      | (with_reducible exact LeO.none _)
      | (with_reducible refine LeO.ite ?_ ?_)
      | (with_reducible refine LeO.bind ?_ (fun _ => ?_))
      | exact ih0 _ _ _ _ _
      | exact ih1 _ _ _ _ _ _
      | exact ih2 _ _ _ _ _ _ _
      | exact LeO.none _
      | refine LeO.ite ?_ ?_
      | refine LeO.bind ?_ (fun _ => ?_)
set_option maxHeartbeats 8000000 in
set_option maxRecDepth 100000 in
theorem spec_spread.calls (k : Nat) (a0 : ByteArray) (a1 : ByteArray) (a2 : Bool) (r : ByteArray) (w : World) (h : spec_spread.f k a0 a1 a2 = some r) :
    Calls Tryd.prog 14 #[.string a0, .string a1, .bool a2] w fun e w' => e = .returned (.string r) ∧ Below w.heap.size w w' := by
  have HB := Aside0.mk (Below.refl w.heap.size w)
  have H : ((some (([] : List Int) : List Int)).bind fun y273 => (if a2 = true then (if y273.length < 140737488355328 then (spec_spread.j0 k a0 a1 a2 (y273 ++ [34]) true) else (none)) else (spec_spread.j0 k a0 a1 a2 y273 true))) = some r := h
  clear h
  obtain ⟨y273, hy273⟩ : ∃ y_ : List Int, y_ = (([] : List Int)) := ⟨_, rfl⟩
  replace H : (if a2 = true then (if y273.length < 140737488355328 then (spec_spread.j0 k a0 a1 a2 (y273 ++ [34]) true) else (none)) else (spec_spread.j0 k a0 a1 a2 y273 true)) = some r := by first | (rw [hy273]; with_reducible exact H) | (have H2_ := (Option.bind_some _ _).symm.trans H; rw [hy273]; with_reducible exact H2_) | (have H2_ := (Option.bind_some _ _).symm.trans H; with_reducible exact H2_) | with_reducible exact H | (rw [hy273]; exact H) | exact H
  have Ny273 := Aside0.mk hy273
  clear hy273
  have HC4 := Aside0.mk H
  clear H
  go_enter Tryd.func14, Tryd.ntmps14
  go_upto_if 11 with (first | ((with_reducible refine gate_dst (N := 10) rfl ?_); (try (refine gate_guard (by rfl) ?_; dsimp only)); refine Kd.R_lit (Kd.int .u8) _ 5 ?hg (N := 10) ?hd (xs := ([] : List Int)) (inner := []) (ok := fun _ => True) (okp := fun _ => True) ?hr ?hp (fun _ hk => hk) trivial (Below.refl _ _) (Nat.le_refl _) (by simp) ?_; (case hd => rfl); (case hg => rfl); (case hr => first | (go_simp; done) | (go_simp; rfl)); (case hp => exact (Reps.none _ _)); intro v274 w5 ho6 hb hg_ hnew_; clear hg_ hnew_; (first | rw [← Ny273.out] at ho6 | (simp only [Int.reduceToNat] at ho6; rw [← Ny273.out] at ho6)); have n0_ := Aside0.mk (Kd.R_lower ho6 (below_size (by repeat (first | (with_reducible first | exact HB.out | apply below_alloc | apply pw_below_drewN | apply below_drew1) | exact HB.out)))); have n1_ := Aside0.mk (below_step (by repeat (first | (with_reducible first | exact HB.out | apply below_alloc | apply pw_below_drewN | apply below_drew1) | exact HB.out)) hb); clear HB; have HO275 := n0_; have HB := n1_; clear n0_ n1_; clear hb ho6))
  (try simp only [Act.put, List.setIfInBounds_toArray, List.set_cons_zero, List.set_cons_succ])
  go_cut [7] (fun v7 wc => ∃ (kq : Nat) (x7_3 : List Int), Aside0 (spec_spread.j0 kq a0 a1 a2 x7_3 true = some r) ∧ Aside0 (kq ≤ k) ∧ Aside0 (Kd.R (Kd.int .u8) 5 wc w.heap.size (fun _ => True) v7 x7_3) ∧ Aside0 (Below w.heap.size w wc))
  case first =>
    have H := HC4.out
    clear HC4
    by_cases c7 : a2 = true
    · subst c7
      have H1 : (if y273.length < 140737488355328 then (spec_spread.j0 k a0 a1 true (y273 ++ [34]) true) else (none)) = some r := by rw [if_pos rfl] at H; exact H
      clear H
      have H := H1
      clear H1
      by_cases c8 : y273.length < 140737488355328
      · rw [if_pos c8] at H
        have LMc8 := Aside0.mk c8
        clear c8
        obtain ⟨y276, hy276⟩ : ∃ y_ : List Int, y_ = (y273 ++ [34]) := ⟨_, rfl⟩
        replace H : (spec_spread.j0 k a0 a1 true y276 true) = some r := by first | (rw [hy276]; with_reducible exact H) | (have H2_ := (Option.bind_some _ _).symm.trans H; rw [hy276]; with_reducible exact H2_) | (have H2_ := (Option.bind_some _ _).symm.trans H; with_reducible exact H2_) | with_reducible exact H | (rw [hy276]; exact H) | exact H
        have Ny276 := Aside0.mk hy276
        clear hy276
        have H' := Aside0.mk H
        clear H
        go_wp2_with (first | ((with_reducible refine gate_builtin (b := .append) (xs := #[.tmp 12, .tmp 13]) rfl ?_); (try (refine gate_guard (by rfl) ?_; dsimp only)); at_builtin; refine Kd.R_append (Kd.int .u8) (w0 := w) w.heap.size rfl (.tmp 12) (.tmp 13) 23 5 (.int .u8 0) 1 rfl Tryd.underlying23 info5 rfl (by decide) (by omega) v274 y273 34 [.int .u8 34] (fun _ => True) (fun _ => False) rfl rfl ?aP (fun _ hk => hk.elim) ?aF ?aO ?aB ?aS ?aL ?_; (case aP => exact rfl); (case aB => exact (by repeat (first | (with_reducible first | exact HB.out | apply below_alloc | apply pw_below_drewN | apply below_drew1) | exact HB.out))); (case aF => exact (fun _ _ => trivial)); (case aO => exact (by (with_reducible repeat (first | apply Kd.R_alloc | apply Kd.R_drewN | apply Kd.R_drew)); exact HO275.out)); (case aS => exact (below_size (by repeat (first | (with_reducible first | exact HB.out | apply below_alloc | apply pw_below_drewN | apply below_drew1) | exact HB.out)))); (case aL => have := LMc8.out; omega); intro v277 w9 ho hb hg hat; rw [← Ny276.out] at ho; have n0_ := Aside0.mk (hb); have n1_ := Aside0.mk (ho); clear HB; clear HO275; have HB := n0_; have HO278 := n1_; clear n0_ n1_; clear ho hb hg hat))
        go_meet
        case rel => exact ⟨_, (y276), H', ⟨by first | omega | exact Nat.le_refl _⟩, ⟨by (with_reducible repeat (first | apply Kd.R_alloc | apply Kd.R_drewN | apply Kd.R_drew)); exact HO278.out⟩, ⟨by repeat (first | (with_reducible first | exact HB.out | apply below_alloc | apply pw_below_drewN | apply below_drew1) | exact HB.out)⟩⟩
      · rw [if_neg c8] at H
        exact absurd H (by simp)
    · replace c7 := Bool.eq_false_iff.mpr c7
      subst c7
      have H1 : (spec_spread.j0 k a0 a1 false y273 true) = some r := by rw [if_neg (show ¬ (false = true) by decide)] at H; exact H
      clear H
      have H := H1
      clear H1
      have H' := Aside0.mk H
      clear H
      go_wp2
      go_meet
      case rel => exact ⟨_, (y273), H', ⟨by first | omega | exact Nat.le_refl _⟩, ⟨by (with_reducible repeat (first | apply Kd.R_alloc | apply Kd.R_drewN | apply Kd.R_drew)); exact HO275.out⟩, ⟨by repeat (first | (with_reducible first | exact HB.out | apply below_alloc | apply pw_below_drewN | apply below_drew1) | exact HB.out)⟩⟩
  case rest =>
    clear HC4
    try clear c1
    try clear p2
    try clear c7
    try clear c8
    obtain ⟨kq, x7_3, HA, HJ3, HO_7, HB⟩ := hcut
    cases kq with
    | zero => exact absurd HA.out (by simp [spec_spread.j0])
    | succ kj3 =>
      have H := HA.out
      clear HA
      simp only [spec_spread.j0] at H
      have H' := Aside0.mk H
      clear H
      go_wp2
      go_loopg [7, 8, 9] kj3 (fun kq v7 v8 v9 w' => ∃ (x7_2 : List Int) (x8_2 : Bool) (x9_2 : Int), v8 = .bool x8_2 ∧ v9 = .int .i64 x9_2 ∧ Aside0 (spec_spread.l0 kq a0 a1 a2 x7_2 x8_2 x9_2 = some r) ∧ Aside0 (kq ≤ kj3) ∧ Aside0 (Kd.R (Kd.int .u8) 5 w' w.heap.size (fun _ => True) v7 x7_2) ∧ Aside0 (Below w.heap.size w w'))
      case atStart => exact ⟨(x7_3), (true), (0), (by first | rfl | (simp; done) | (simp [*]; done)), (by first | rfl | (simp; done) | (simp [*]; done)), H', ⟨Nat.le_refl _⟩, ⟨by (with_reducible repeat (first | apply Kd.R_alloc | apply Kd.R_drewN | apply Kd.R_drew)); exact HO_7.out⟩, ⟨by repeat (first | (with_reducible first | exact HB.out | apply below_alloc | apply pw_below_drewN | apply below_drew1) | exact HB.out)⟩⟩
      case round =>
        clear H'
        try clear c1
        try clear p2
        try clear c7
        try clear c8
        try clear p2
        obtain ⟨x7_2, x8_2, x9_2, rfl, rfl, HA, HK2, HO_7, HB⟩ := hrel
        cases gk with
        | zero => exact absurd HA.out (by simp [spec_spread.l0])
        | succ k2 =>
          have H := HA.out
          clear HA
          simp only [spec_spread.l0] at H
          by_cases c10 : x9_2 < (a0.size : Int)
          · rw [if_pos c10] at H
            have c10b0 : decide (x9_2 < (a0.size : Int)) = true := decide_eq_true c10
            clear c10
            have HC11 := Aside0.mk H
            clear H
            go_upto_region 8 with (fail)
            go_cut [38] (fun v38 wc => ∃ (kq : Nat) (x38_10 : Bool), v38 = .bool x38_10 ∧ Aside0 (spec_spread.j2 kq a0 a1 a2 x7_2 x8_2 x9_2 x38_10 = some r) ∧ Aside0 (kq ≤ k2) ∧ Aside0 (Kd.R (Kd.int .u8) 5 wc w.heap.size (fun _ => True) u7 x7_2) ∧ Aside0 (Below w.heap.size w wc))
            case first =>
              have H := HC11.out
              clear HC11
              by_cases c12 : 0 ≤ x9_2
              · rw [if_pos c12] at H
                have c12b0 : decide (0 ≤ x9_2) = true := decide_eq_true c12
                clear c12
                (first | rw [c12b0] | (simp only [i64_w, i32_w]; rw [c12b0]) | skip)
                by_cases c14 : (bt a0 x9_2) = 47
                · rw [if_pos c14] at H
                  have c14b0 : ((bt a0 x9_2) == 47) = true := beq_iff_eq.mpr c14
                  have c14b1 : ((bt a0 x9_2) != 47) = false := bne_eq_false_iff_eq.mpr c14
                  clear c14
                  by_cases c15 : (wrap64 (x9_2 + 1)) < (a0.size : Int)
                  · rw [if_pos c15] at H
                    have c15b0 : decide ((wrap64 (x9_2 + 1)) < (a0.size : Int)) = true := decide_eq_true c15
                    clear c15
                    obtain ⟨ji16, hji16⟩ : ∃ j_ : Int, (wrap64 (x9_2 + 1)) = j_ := ⟨_, rfl⟩
                    replace H : (if 0 ≤ (ji16) then (spec_spread.j2 k2 a0 a1 a2 x7_2 x8_2 x9_2 ((bt a0 (ji16)) == 47)) else (none)) = some r := by first | (rw [hji16] at H; exact H) | (simp only [hji16] at H ⊢; exact H)
                    (try rw [hji16] at c15b0)
                    have hji16w : (IntKind.i64.wrap (x9_2 + 1)) = ji16 := (i64_w _).trans hji16
                    by_cases c17 : 0 ≤ (ji16)
                    · rw [if_pos c17] at H
                      have c17b0 : decide (0 ≤ (ji16)) = true := decide_eq_true c17
                      clear c17
                      have H' := Aside0.mk H
                      clear H
                      have p13 : 0 ≤ (x9_2 : Int) := of_decide_eq_true (by first | (with_reducible assumption) | assumption)
                      have q13 : x9_2 < (a0.size : Int) := of_decide_eq_true (by first | (with_reducible assumption) | assumption)
                      have hx13 := bt_at a0 x9_2
                      replace p13 := eq_true p13
                      replace q13 := eq_true q13
                      have p18 : 0 ≤ ((ji16) : Int) := of_decide_eq_true (by first | (with_reducible assumption) | assumption)
                      have q18 : (ji16) < (a0.size : Int) := of_decide_eq_true (by first | (with_reducible assumption) | assumption)
                      have hx18 := bt_at a0 (ji16)
                      replace p18 := eq_true p18
                      replace q18 := eq_true q18
                      go_wp2
                      go_meet
                      case rel => exact ⟨_, (((bt a0 (ji16)) == 47)), (by first | rfl | (simp; done) | (simp only [← hji16] <;> (first | rfl | simp)) | (simp [*]; done)), H', ⟨by have := HJ3.out; have := HK2.out; first | omega | exact Nat.le_refl _⟩, ⟨by (with_reducible repeat (first | apply Kd.R_alloc | apply Kd.R_drewN | apply Kd.R_drew)); exact HO_7.out⟩, ⟨by repeat (first | (with_reducible first | exact HB.out | apply below_alloc | apply pw_below_drewN | apply below_drew1) | exact HB.out)⟩⟩
                    · rw [if_neg c17] at H
                      exact absurd H (by simp)
                  · rw [if_neg c15] at H
                    have c15b0 : decide ((wrap64 (x9_2 + 1)) < (a0.size : Int)) = false := decide_eq_false c15
                    clear c15
                    have H' := Aside0.mk H
                    clear H
                    have p13 : 0 ≤ (x9_2 : Int) := of_decide_eq_true (by first | (with_reducible assumption) | assumption)
                    have q13 : x9_2 < (a0.size : Int) := of_decide_eq_true (by first | (with_reducible assumption) | assumption)
                    have hx13 := bt_at a0 x9_2
                    replace p13 := eq_true p13
                    replace q13 := eq_true q13
                    go_wp2
                    go_meet
                    case rel => exact ⟨_, (false), (by first | rfl | (simp; done) | (simp [*]; done)), H', ⟨by have := HJ3.out; have := HK2.out; first | omega | exact Nat.le_refl _⟩, ⟨by (with_reducible repeat (first | apply Kd.R_alloc | apply Kd.R_drewN | apply Kd.R_drew)); exact HO_7.out⟩, ⟨by repeat (first | (with_reducible first | exact HB.out | apply below_alloc | apply pw_below_drewN | apply below_drew1) | exact HB.out)⟩⟩
                · rw [if_neg c14] at H
                  have c14b0 : ((bt a0 x9_2) == 47) = false := beq_eq_false_iff_ne.mpr c14
                  have c14b1 : ((bt a0 x9_2) != 47) = true := bne_iff_ne.mpr c14
                  have H' := Aside0.mk H
                  clear H
                  have p13 : 0 ≤ (x9_2 : Int) := of_decide_eq_true (by first | (with_reducible assumption) | assumption)
                  have q13 : x9_2 < (a0.size : Int) := of_decide_eq_true (by first | (with_reducible assumption) | assumption)
                  have hx13 := bt_at a0 x9_2
                  replace p13 := eq_true p13
                  replace q13 := eq_true q13
                  go_wp2
                  go_meet
                  case rel => exact ⟨_, (false), (by first | rfl | (simp; done) | (simp [*]; done)), H', ⟨by have := HJ3.out; have := HK2.out; first | omega | exact Nat.le_refl _⟩, ⟨by (with_reducible repeat (first | apply Kd.R_alloc | apply Kd.R_drewN | apply Kd.R_drew)); exact HO_7.out⟩, ⟨by repeat (first | (with_reducible first | exact HB.out | apply below_alloc | apply pw_below_drewN | apply below_drew1) | exact HB.out)⟩⟩
              · rw [if_neg c12] at H
                exact absurd H (by simp)
            case rest =>
              clear HC11
              try clear c1
              try clear p1
              try clear q1
              try clear hx1
              try clear p2
              try clear p6
              try clear c7
              try clear c8
              try clear c10
              try clear c10b0
              try clear c12
              try clear c12b0
              try clear p13
              try clear q13
              try clear hx13
              try clear c14
              try clear c14b0
              try clear c14b1
              try clear c15
              try clear c15b0
              try clear c17
              try clear c17b0
              try clear p18
              try clear q18
              try clear hx18
              try clear p13
              try clear p18
              try clear p2
              try clear q13
              try clear q18
              obtain ⟨kq, x38_10, rfl, HA, HJ10, HO_7, HB⟩ := hcut
              cases kq with
              | zero => exact absurd HA.out (by simp [spec_spread.j2])
              | succ kj10 =>
                have H := HA.out
                clear HA
                simp only [spec_spread.j2] at H
                by_cases c19 : x38_10 = true
                · subst c19
                  have H1 : (if 0 ≤ x9_2 then (if x9_2 ≤ (a0.size : Int) then (if x7_2.length + (a0.extract (x9_2 : Int).toNat a0.size).size < 140737488355328 then (some (strOfNums (x7_2 ++ bytesOf (a0.extract (x9_2 : Int).toNat a0.size)))) else (none)) else (none)) else (none)) = some r := by rw [if_pos rfl] at H; exact H
                  clear H
                  have H := H1
                  clear H1
                  by_cases c20 : 0 ≤ x9_2
                  · rw [if_pos c20] at H
                    have c20b0 := eq_true c20
                    have c20b1 : decide (0 ≤ x9_2) = true := decide_eq_true c20
                    clear c20
                    by_cases c21 : x9_2 ≤ (a0.size : Int)
                    · rw [if_pos c21] at H
                      have c21b0 := eq_true c21
                      have c21b1 : decide (x9_2 ≤ (a0.size : Int)) = true := decide_eq_true c21
                      clear c21
                      by_cases c22 : x7_2.length + (a0.extract (x9_2 : Int).toNat a0.size).size < 140737488355328
                      · rw [if_pos c22] at H
                        have LMc22 := Aside0.mk c22
                        clear c22
                        obtain ⟨y282, hy282⟩ : ∃ y_ : List Int, y_ = (x7_2 ++ bytesOf (a0.extract (x9_2 : Int).toNat a0.size)) := ⟨_, rfl⟩
                        replace H : (some (strOfNums y282)) = some r := by first | (rw [hy282]; with_reducible exact H) | (have H2_ := (Option.bind_some _ _).symm.trans H; rw [hy282]; with_reducible exact H2_) | (have H2_ := (Option.bind_some _ _).symm.trans H; with_reducible exact H2_) | with_reducible exact H | (rw [hy282]; exact H) | exact H
                        have Ny282 := Aside0.mk hy282
                        clear hy282
                        obtain rfl := Option.some.inj H
                        go_wp2_with (first | (at_builtin; refine print_append_str (w0 := w) w.heap.size rfl (.tmp 39) _ 23 9 5 rfl Tryd.underlying23 Tryd.underlying9 info5 u7 x7_2 (a0.extract (x9_2 : Int).toNat a0.size) rfl rfl ?aO ?aB ?aS ?aL ?_; (case aB => exact (by repeat (first | (with_reducible first | exact HB.out | apply below_alloc | apply pw_below_drewN | apply below_drew1) | exact HB.out))); (case aO => exact (Kd.own_of_R (by (with_reducible repeat (first | apply Kd.R_alloc | apply Kd.R_drewN | apply Kd.R_drew)); exact HO_7.out))); (case aS => exact (below_size (by repeat (first | (with_reducible first | exact HB.out | apply below_alloc | apply pw_below_drewN | apply below_drew1) | exact HB.out)))); (case aL => have := LMc22.out; omega); intro v283 w23 ho0 hb hg; have ho := Kd.R_of_own (h1 := fun _ => rfl) (ok := fun _ => True) ho0 (fun _ _ => trivial); clear ho0; have hat := True.intro; rw [← Ny282.out] at ho; change Kd.R (Kd.int .u8) 5 w23 w.heap.size (fun _ => True) v283 y282 at ho; have n0_ := Aside0.mk (hb); have n1_ := Aside0.mk (ho); clear HB; clear HO_7; have HB := n0_; have HO284 := n1_; clear n0_ n1_; clear ho hb hg hat; have hcv24 := own_string (P := Tryd.prog) Tryd.underlying23 Tryd.underlying5 Tryd.underlying9 (Kd.own_of_R HO284.out)))
                        go_ret
                        exact ⟨by first | rfl | (simp [errW_none, errW_some] <;> rfl) | (simp [*, errW_none, errW_some] <;> rfl), by repeat (first | (with_reducible first | exact HB.out | apply below_alloc | apply pw_below_drewN | apply below_drew1) | exact HB.out)⟩
                      · rw [if_neg c22] at H
                        exact absurd H (by simp)
                    · rw [if_neg c21] at H
                      exact absurd H (by simp)
                  · rw [if_neg c20] at H
                    exact absurd H (by simp)
                · replace c19 := Bool.eq_false_iff.mpr c19
                  subst c19
                  have H1 : (if 0 ≤ x9_2 then (if x9_2 < (a0.size : Int) then (if (bt a0 x9_2) = 32 then (if x8_2 = true then (if a2 = true then (if x7_2.length < 140737488355328 then ((some (x7_2 ++ [34] : List Int)).bind fun y285 => (if y285.length + a1.size < 140737488355328 then (spec_spread.l0 kj10 a0 a1 a2 (y285 ++ bytesOf a1) false (wrap64 (x9_2 + 1))) else (none))) else (none)) else (if x7_2.length + a1.size < 140737488355328 then (spec_spread.l0 kj10 a0 a1 a2 (x7_2 ++ bytesOf a1) false (wrap64 (x9_2 + 1))) else (none))) else (if x7_2.length + a1.size < 140737488355328 then (spec_spread.l0 kj10 a0 a1 a2 (x7_2 ++ bytesOf a1) false (wrap64 (x9_2 + 1))) else (none))) else (if x7_2.length < 140737488355328 then (spec_spread.l0 kj10 a0 a1 a2 (x7_2 ++ [bt a0 x9_2]) x8_2 (wrap64 (x9_2 + 1))) else (none))) else (none)) else (none)) = some r := by rw [if_neg (show ¬ (false = true) by decide)] at H; exact H
                  clear H
                  have H := H1
                  clear H1
                  by_cases c25 : 0 ≤ x9_2
                  · rw [if_pos c25] at H
                    have c25b0 : decide (0 ≤ x9_2) = true := decide_eq_true c25
                    clear c25
                    by_cases c26 : x9_2 < (a0.size : Int)
                    · rw [if_pos c26] at H
                      have c26b0 : decide (x9_2 < (a0.size : Int)) = true := decide_eq_true c26
                      clear c26
                      by_cases c28 : (bt a0 x9_2) = 32
                      · rw [if_pos c28] at H
                        have c28b0 : ((bt a0 x9_2) == 32) = true := beq_iff_eq.mpr c28
                        have c28b1 : ((bt a0 x9_2) != 32) = false := bne_eq_false_iff_eq.mpr c28
                        clear c28
                        by_cases c29 : x8_2 = true
                        · subst c29
                          have H1 : (if a2 = true then (if x7_2.length < 140737488355328 then ((some (x7_2 ++ [34] : List Int)).bind fun y285 => (if y285.length + a1.size < 140737488355328 then (spec_spread.l0 kj10 a0 a1 a2 (y285 ++ bytesOf a1) false (wrap64 (x9_2 + 1))) else (none))) else (none)) else (if x7_2.length + a1.size < 140737488355328 then (spec_spread.l0 kj10 a0 a1 a2 (x7_2 ++ bytesOf a1) false (wrap64 (x9_2 + 1))) else (none))) = some r := by rw [if_pos rfl] at H; exact H
                          clear H
                          have H := H1
                          clear H1
                          by_cases c30 : a2 = true
                          · subst c30
                            have H1 : (if x7_2.length < 140737488355328 then ((some (x7_2 ++ [34] : List Int)).bind fun y285 => (if y285.length + a1.size < 140737488355328 then (spec_spread.l0 kj10 a0 a1 true (y285 ++ bytesOf a1) false (wrap64 (x9_2 + 1))) else (none))) else (none)) = some r := by rw [if_pos rfl] at H; exact H
                            clear H
                            have H := H1
                            clear H1
                            by_cases c31 : x7_2.length < 140737488355328
                            · rw [if_pos c31] at H
                              have LMc31 := Aside0.mk c31
                              clear c31
                              obtain ⟨y285, hy285⟩ : ∃ y_ : List Int, y_ = (x7_2 ++ [34]) := ⟨_, rfl⟩
                              replace H : (if y285.length + a1.size < 140737488355328 then (spec_spread.l0 kj10 a0 a1 true (y285 ++ bytesOf a1) false (wrap64 (x9_2 + 1))) else (none)) = some r := by first | (rw [hy285]; with_reducible exact H) | (have H2_ := (Option.bind_some _ _).symm.trans H; rw [hy285]; with_reducible exact H2_) | (have H2_ := (Option.bind_some _ _).symm.trans H; with_reducible exact H2_) | with_reducible exact H | (rw [hy285]; exact H) | exact H
                              have Ny285 := Aside0.mk hy285
                              clear hy285
                              by_cases c32 : y285.length + a1.size < 140737488355328
                              · rw [if_pos c32] at H
                                have LMc32 := Aside0.mk c32
                                clear c32
                                obtain ⟨y288, hy288⟩ : ∃ y_ : List Int, y_ = (y285 ++ bytesOf a1) := ⟨_, rfl⟩
                                replace H : (spec_spread.l0 kj10 a0 a1 true y288 false (wrap64 (x9_2 + 1))) = some r := by first | (rw [hy288]; with_reducible exact H) | (have H2_ := (Option.bind_some _ _).symm.trans H; rw [hy288]; with_reducible exact H2_) | (have H2_ := (Option.bind_some _ _).symm.trans H; with_reducible exact H2_) | with_reducible exact H | (rw [hy288]; exact H) | exact H
                                have Ny288 := Aside0.mk hy288
                                clear hy288
                                have H' := Aside0.mk H
                                clear H
                                have p27 : 0 ≤ (x9_2 : Int) := of_decide_eq_true (by first | (with_reducible assumption) | assumption)
                                have q27 : x9_2 < (a0.size : Int) := of_decide_eq_true (by first | (with_reducible assumption) | assumption)
                                have hx27 := bt_at a0 x9_2
                                replace p27 := eq_true p27
                                replace q27 := eq_true q27
                                go_wp2_with (first | ((with_reducible refine gate_builtin (b := .append) (xs := #[.tmp 53, .tmp 54]) rfl ?_); (try (refine gate_guard (by rfl) ?_; dsimp only)); at_builtin; refine Kd.R_append (Kd.int .u8) (w0 := w) w.heap.size rfl (.tmp 53) (.tmp 54) 23 5 (.int .u8 0) 1 rfl Tryd.underlying23 info5 rfl (by decide) (by omega) u7 x7_2 34 [.int .u8 34] (fun _ => True) (fun _ => False) rfl rfl ?aP (fun _ hk => hk.elim) ?aF ?aO ?aB ?aS ?aL ?_; (case aP => exact rfl); (case aB => exact (by repeat (first | (with_reducible first | exact HB.out | apply below_alloc | apply pw_below_drewN | apply below_drew1) | exact HB.out))); (case aF => exact (fun _ _ => trivial)); (case aO => exact (by (with_reducible repeat (first | apply Kd.R_alloc | apply Kd.R_drewN | apply Kd.R_drew)); exact HO_7.out)); (case aS => exact (below_size (by repeat (first | (with_reducible first | exact HB.out | apply below_alloc | apply pw_below_drewN | apply below_drew1) | exact HB.out)))); (case aL => have := LMc31.out; omega); intro v286 w33 ho hb hg hat; rw [← Ny285.out] at ho; have n0_ := Aside0.mk (hb); have n1_ := Aside0.mk (ho); clear HB; clear HO_7; have HB := n0_; have HO287 := n1_; clear n0_ n1_; clear ho hb hg hat) | (at_builtin; refine print_append_str (w0 := w) w.heap.size rfl (.tmp 56) _ 23 9 5 rfl Tryd.underlying23 Tryd.underlying9 info5 v286 y285 a1 rfl rfl ?aO ?aB ?aS ?aL ?_; (case aB => exact (by repeat (first | (with_reducible first | exact HB.out | apply below_alloc | apply pw_below_drewN | apply below_drew1) | exact HB.out))); (case aO => exact (Kd.own_of_R (by (with_reducible repeat (first | apply Kd.R_alloc | apply Kd.R_drewN | apply Kd.R_drew)); exact HO287.out))); (case aS => exact (below_size (by repeat (first | (with_reducible first | exact HB.out | apply below_alloc | apply pw_below_drewN | apply below_drew1) | exact HB.out)))); (case aL => have := LMc32.out; omega); intro v289 w34 ho0 hb hg; have ho := Kd.R_of_own (h1 := fun _ => rfl) (ok := fun _ => True) ho0 (fun _ _ => trivial); clear ho0; have hat := True.intro; rw [← Ny288.out] at ho; change Kd.R (Kd.int .u8) 5 w34 w.heap.size (fun _ => True) v289 y288 at ho; have n0_ := Aside0.mk (hb); have n1_ := Aside0.mk (ho); clear HB; clear HO287; have HB := n0_; have HO290 := n1_; clear n0_ n1_; clear ho hb hg hat))
                                go_roundg kj10
                                case measure => have := HJ3.out; have := HK2.out; have := HJ10.out; omega
                                case rel => exact ⟨(y288), (false), (wrap64 (x9_2 + 1)), (by first | rfl | (simp; done) | (simp [*]; done)), (by first | rfl | (simp; done) | (simp [*]; done)), H', ⟨by have := HJ3.out; have := HK2.out; have := HJ10.out; omega⟩, ⟨by (with_reducible repeat (first | apply Kd.R_alloc | apply Kd.R_drewN | apply Kd.R_drew)); exact HO290.out⟩, ⟨by repeat (first | (with_reducible first | exact HB.out | apply below_alloc | apply pw_below_drewN | apply below_drew1) | exact HB.out)⟩⟩
                              · rw [if_neg c32] at H
                                exact absurd H (by simp)
                            · rw [if_neg c31] at H
                              exact absurd H (by simp)
                          · replace c30 := Bool.eq_false_iff.mpr c30
                            subst c30
                            have H1 : (if x7_2.length + a1.size < 140737488355328 then (spec_spread.l0 kj10 a0 a1 false (x7_2 ++ bytesOf a1) false (wrap64 (x9_2 + 1))) else (none)) = some r := by rw [if_neg (show ¬ (false = true) by decide)] at H; exact H
                            clear H
                            have H := H1
                            clear H1
                            by_cases c35 : x7_2.length + a1.size < 140737488355328
                            · rw [if_pos c35] at H
                              have LMc35 := Aside0.mk c35
                              clear c35
                              obtain ⟨y291, hy291⟩ : ∃ y_ : List Int, y_ = (x7_2 ++ bytesOf a1) := ⟨_, rfl⟩
                              replace H : (spec_spread.l0 kj10 a0 a1 false y291 false (wrap64 (x9_2 + 1))) = some r := by first | (rw [hy291]; with_reducible exact H) | (have H2_ := (Option.bind_some _ _).symm.trans H; rw [hy291]; with_reducible exact H2_) | (have H2_ := (Option.bind_some _ _).symm.trans H; with_reducible exact H2_) | with_reducible exact H | (rw [hy291]; exact H) | exact H
                              have Ny291 := Aside0.mk hy291
                              clear hy291
                              have H' := Aside0.mk H
                              clear H
                              have p27 : 0 ≤ (x9_2 : Int) := of_decide_eq_true (by first | (with_reducible assumption) | assumption)
                              have q27 : x9_2 < (a0.size : Int) := of_decide_eq_true (by first | (with_reducible assumption) | assumption)
                              have hx27 := bt_at a0 x9_2
                              replace p27 := eq_true p27
                              replace q27 := eq_true q27
                              go_wp2_with (first | (at_builtin; refine print_append_str (w0 := w) w.heap.size rfl (.tmp 56) _ 23 9 5 rfl Tryd.underlying23 Tryd.underlying9 info5 u7 x7_2 a1 rfl rfl ?aO ?aB ?aS ?aL ?_; (case aB => exact (by repeat (first | (with_reducible first | exact HB.out | apply below_alloc | apply pw_below_drewN | apply below_drew1) | exact HB.out))); (case aO => exact (Kd.own_of_R (by (with_reducible repeat (first | apply Kd.R_alloc | apply Kd.R_drewN | apply Kd.R_drew)); exact HO_7.out))); (case aS => exact (below_size (by repeat (first | (with_reducible first | exact HB.out | apply below_alloc | apply pw_below_drewN | apply below_drew1) | exact HB.out)))); (case aL => have := LMc35.out; omega); intro v292 w36 ho0 hb hg; have ho := Kd.R_of_own (h1 := fun _ => rfl) (ok := fun _ => True) ho0 (fun _ _ => trivial); clear ho0; have hat := True.intro; rw [← Ny291.out] at ho; change Kd.R (Kd.int .u8) 5 w36 w.heap.size (fun _ => True) v292 y291 at ho; have n0_ := Aside0.mk (hb); have n1_ := Aside0.mk (ho); clear HB; clear HO_7; have HB := n0_; have HO293 := n1_; clear n0_ n1_; clear ho hb hg hat))
                              go_roundg kj10
                              case measure => have := HJ3.out; have := HK2.out; have := HJ10.out; omega
                              case rel => exact ⟨(y291), (false), (wrap64 (x9_2 + 1)), (by first | rfl | (simp; done) | (simp [*]; done)), (by first | rfl | (simp; done) | (simp [*]; done)), H', ⟨by have := HJ3.out; have := HK2.out; have := HJ10.out; omega⟩, ⟨by (with_reducible repeat (first | apply Kd.R_alloc | apply Kd.R_drewN | apply Kd.R_drew)); exact HO293.out⟩, ⟨by repeat (first | (with_reducible first | exact HB.out | apply below_alloc | apply pw_below_drewN | apply below_drew1) | exact HB.out)⟩⟩
                            · rw [if_neg c35] at H
                              exact absurd H (by simp)
                        · replace c29 := Bool.eq_false_iff.mpr c29
                          subst c29
                          have H1 : (if x7_2.length + a1.size < 140737488355328 then (spec_spread.l0 kj10 a0 a1 a2 (x7_2 ++ bytesOf a1) false (wrap64 (x9_2 + 1))) else (none)) = some r := by rw [if_neg (show ¬ (false = true) by decide)] at H; exact H
                          clear H
                          have H := H1
                          clear H1
                          by_cases c37 : x7_2.length + a1.size < 140737488355328
                          · rw [if_pos c37] at H
                            have LMc37 := Aside0.mk c37
                            clear c37
                            obtain ⟨y294, hy294⟩ : ∃ y_ : List Int, y_ = (x7_2 ++ bytesOf a1) := ⟨_, rfl⟩
                            replace H : (spec_spread.l0 kj10 a0 a1 a2 y294 false (wrap64 (x9_2 + 1))) = some r := by first | (rw [hy294]; with_reducible exact H) | (have H2_ := (Option.bind_some _ _).symm.trans H; rw [hy294]; with_reducible exact H2_) | (have H2_ := (Option.bind_some _ _).symm.trans H; with_reducible exact H2_) | with_reducible exact H | (rw [hy294]; exact H) | exact H
                            have Ny294 := Aside0.mk hy294
                            clear hy294
                            have H' := Aside0.mk H
                            clear H
                            have p27 : 0 ≤ (x9_2 : Int) := of_decide_eq_true (by first | (with_reducible assumption) | assumption)
                            have q27 : x9_2 < (a0.size : Int) := of_decide_eq_true (by first | (with_reducible assumption) | assumption)
                            have hx27 := bt_at a0 x9_2
                            replace p27 := eq_true p27
                            replace q27 := eq_true q27
                            go_wp2_with (first | (at_builtin; refine print_append_str (w0 := w) w.heap.size rfl (.tmp 56) _ 23 9 5 rfl Tryd.underlying23 Tryd.underlying9 info5 u7 x7_2 a1 rfl rfl ?aO ?aB ?aS ?aL ?_; (case aB => exact (by repeat (first | (with_reducible first | exact HB.out | apply below_alloc | apply pw_below_drewN | apply below_drew1) | exact HB.out))); (case aO => exact (Kd.own_of_R (by (with_reducible repeat (first | apply Kd.R_alloc | apply Kd.R_drewN | apply Kd.R_drew)); exact HO_7.out))); (case aS => exact (below_size (by repeat (first | (with_reducible first | exact HB.out | apply below_alloc | apply pw_below_drewN | apply below_drew1) | exact HB.out)))); (case aL => have := LMc37.out; omega); intro v295 w38 ho0 hb hg; have ho := Kd.R_of_own (h1 := fun _ => rfl) (ok := fun _ => True) ho0 (fun _ _ => trivial); clear ho0; have hat := True.intro; rw [← Ny294.out] at ho; change Kd.R (Kd.int .u8) 5 w38 w.heap.size (fun _ => True) v295 y294 at ho; have n0_ := Aside0.mk (hb); have n1_ := Aside0.mk (ho); clear HB; clear HO_7; have HB := n0_; have HO296 := n1_; clear n0_ n1_; clear ho hb hg hat))
                            go_roundg kj10
                            case measure => have := HJ3.out; have := HK2.out; have := HJ10.out; omega
                            case rel => exact ⟨(y294), (false), (wrap64 (x9_2 + 1)), (by first | rfl | (simp; done) | (simp [*]; done)), (by first | rfl | (simp; done) | (simp [*]; done)), H', ⟨by have := HJ3.out; have := HK2.out; have := HJ10.out; omega⟩, ⟨by (with_reducible repeat (first | apply Kd.R_alloc | apply Kd.R_drewN | apply Kd.R_drew)); exact HO296.out⟩, ⟨by repeat (first | (with_reducible first | exact HB.out | apply below_alloc | apply pw_below_drewN | apply below_drew1) | exact HB.out)⟩⟩
                          · rw [if_neg c37] at H
                            exact absurd H (by simp)
                      · rw [if_neg c28] at H
                        have c28b0 : ((bt a0 x9_2) == 32) = false := beq_eq_false_iff_ne.mpr c28
                        have c28b1 : ((bt a0 x9_2) != 32) = true := bne_iff_ne.mpr c28
                        by_cases c40 : x7_2.length < 140737488355328
                        · rw [if_pos c40] at H
                          have LMc40 := Aside0.mk c40
                          clear c40
                          obtain ⟨y297, hy297⟩ : ∃ y_ : List Int, y_ = (x7_2 ++ [bt a0 x9_2]) := ⟨_, rfl⟩
                          replace H : (spec_spread.l0 kj10 a0 a1 a2 y297 x8_2 (wrap64 (x9_2 + 1))) = some r := by first | (rw [hy297]; with_reducible exact H) | (have H2_ := (Option.bind_some _ _).symm.trans H; rw [hy297]; with_reducible exact H2_) | (have H2_ := (Option.bind_some _ _).symm.trans H; with_reducible exact H2_) | with_reducible exact H | (rw [hy297]; exact H) | exact H
                          have Ny297 := Aside0.mk hy297
                          clear hy297
                          have H' := Aside0.mk H
                          clear H
                          have p27 : 0 ≤ (x9_2 : Int) := of_decide_eq_true (by first | (with_reducible assumption) | assumption)
                          have q27 : x9_2 < (a0.size : Int) := of_decide_eq_true (by first | (with_reducible assumption) | assumption)
                          have hx27 := bt_at a0 x9_2
                          replace p27 := eq_true p27
                          replace q27 := eq_true q27
                          have p39 : 0 ≤ (x9_2 : Int) := of_decide_eq_true (by first | (with_reducible assumption) | assumption)
                          have q39 : x9_2 < (a0.size : Int) := of_decide_eq_true (by first | (with_reducible assumption) | assumption)
                          have hx39 := bt_at a0 x9_2
                          replace p39 := eq_true p39
                          replace q39 := eq_true q39
                          go_wp2_with (first | ((with_reducible refine gate_builtin (b := .append) (xs := #[.tmp 59, .tmp 63]) rfl ?_); (try (refine gate_guard (by rfl) ?_; dsimp only)); at_builtin; refine Kd.R_append (Kd.int .u8) (w0 := w) w.heap.size rfl (.tmp 59) (.tmp 63) 23 5 (.int .u8 0) 1 rfl Tryd.underlying23 info5 rfl (by decide) (by omega) u7 x7_2 (bt a0 x9_2) [.int .u8 (bt a0 x9_2)] (fun _ => True) (fun _ => False) rfl rfl ?aP (fun _ hk => hk.elim) ?aF ?aO ?aB ?aS ?aL ?_; (case aP => exact rfl); (case aB => exact (by repeat (first | (with_reducible first | exact HB.out | apply below_alloc | apply pw_below_drewN | apply below_drew1) | exact HB.out))); (case aF => exact (fun _ _ => trivial)); (case aO => exact (by (with_reducible repeat (first | apply Kd.R_alloc | apply Kd.R_drewN | apply Kd.R_drew)); exact HO_7.out)); (case aS => exact (below_size (by repeat (first | (with_reducible first | exact HB.out | apply below_alloc | apply pw_below_drewN | apply below_drew1) | exact HB.out)))); (case aL => have := LMc40.out; omega); intro v298 w41 ho hb hg hat; rw [← Ny297.out] at ho; have n0_ := Aside0.mk (hb); have n1_ := Aside0.mk (ho); clear HB; clear HO_7; have HB := n0_; have HO299 := n1_; clear n0_ n1_; clear ho hb hg hat))
                          go_roundg kj10
                          case measure => have := HJ3.out; have := HK2.out; have := HJ10.out; omega
                          case rel => exact ⟨(y297), (x8_2), (wrap64 (x9_2 + 1)), (by first | rfl | (simp; done) | (simp [*]; done)), (by first | rfl | (simp; done) | (simp [*]; done)), H', ⟨by have := HJ3.out; have := HK2.out; have := HJ10.out; omega⟩, ⟨by (with_reducible repeat (first | apply Kd.R_alloc | apply Kd.R_drewN | apply Kd.R_drew)); exact HO299.out⟩, ⟨by repeat (first | (with_reducible first | exact HB.out | apply below_alloc | apply pw_below_drewN | apply below_drew1) | exact HB.out)⟩⟩
                        · rw [if_neg c40] at H
                          exact absurd H (by simp)
                    · rw [if_neg c26] at H
                      exact absurd H (by simp)
                  · rw [if_neg c25] at H
                    exact absurd H (by simp)
          · rw [if_neg c10] at H
            have c10b0 : decide (x9_2 < (a0.size : Int)) = false := decide_eq_false c10
            clear c10
            by_cases c42 : x8_2 = true
            · subst c42
              have H1 : (if a2 = true then (if x7_2.length < 140737488355328 then (some (strOfNums (x7_2 ++ [34]))) else (none)) else (some (strOfNums x7_2))) = some r := by rw [if_pos rfl] at H; exact H
              clear H
              have H := H1
              clear H1
              by_cases c43 : a2 = true
              · subst c43
                have H1 : (if x7_2.length < 140737488355328 then (some (strOfNums (x7_2 ++ [34]))) else (none)) = some r := by rw [if_pos rfl] at H; exact H
                clear H
                have H := H1
                clear H1
                by_cases c44 : x7_2.length < 140737488355328
                · rw [if_pos c44] at H
                  have LMc44 := Aside0.mk c44
                  clear c44
                  obtain ⟨y279, hy279⟩ : ∃ y_ : List Int, y_ = (x7_2 ++ [34]) := ⟨_, rfl⟩
                  replace H : (some (strOfNums y279)) = some r := by first | (rw [hy279]; with_reducible exact H) | (have H2_ := (Option.bind_some _ _).symm.trans H; rw [hy279]; with_reducible exact H2_) | (have H2_ := (Option.bind_some _ _).symm.trans H; with_reducible exact H2_) | with_reducible exact H | (rw [hy279]; exact H) | exact H
                  have Ny279 := Aside0.mk hy279
                  clear hy279
                  obtain rfl := Option.some.inj H
                  go_wp2_with (first | ((with_reducible refine gate_builtin (b := .append) (xs := #[.tmp 69, .tmp 70]) rfl ?_); (try (refine gate_guard (by rfl) ?_; dsimp only)); at_builtin; refine Kd.R_append (Kd.int .u8) (w0 := w) w.heap.size rfl (.tmp 69) (.tmp 70) 23 5 (.int .u8 0) 1 rfl Tryd.underlying23 info5 rfl (by decide) (by omega) u7 x7_2 34 [.int .u8 34] (fun _ => True) (fun _ => False) rfl rfl ?aP (fun _ hk => hk.elim) ?aF ?aO ?aB ?aS ?aL ?_; (case aP => exact rfl); (case aB => exact (by repeat (first | (with_reducible first | exact HB.out | apply below_alloc | apply pw_below_drewN | apply below_drew1) | exact HB.out))); (case aF => exact (fun _ _ => trivial)); (case aO => exact (by (with_reducible repeat (first | apply Kd.R_alloc | apply Kd.R_drewN | apply Kd.R_drew)); exact HO_7.out)); (case aS => exact (below_size (by repeat (first | (with_reducible first | exact HB.out | apply below_alloc | apply pw_below_drewN | apply below_drew1) | exact HB.out)))); (case aL => have := LMc44.out; omega); intro v280 w45 ho hb hg hat; rw [← Ny279.out] at ho; have n0_ := Aside0.mk (hb); have n1_ := Aside0.mk (ho); clear HB; clear HO_7; have HB := n0_; have HO281 := n1_; clear n0_ n1_; clear ho hb hg hat; have hcv46 := own_string (P := Tryd.prog) Tryd.underlying23 Tryd.underlying5 Tryd.underlying9 (Kd.own_of_R HO281.out)))
                  go_ret
                  exact ⟨by first | rfl | (simp [errW_none, errW_some] <;> rfl) | (simp [*, errW_none, errW_some] <;> rfl), by repeat (first | (with_reducible first | exact HB.out | apply below_alloc | apply pw_below_drewN | apply below_drew1) | exact HB.out)⟩
                · rw [if_neg c44] at H
                  exact absurd H (by simp)
              · replace c43 := Bool.eq_false_iff.mpr c43
                subst c43
                have H1 : (some (strOfNums x7_2)) = some r := by rw [if_neg (show ¬ (false = true) by decide)] at H; exact H
                clear H
                have H := H1
                clear H1
                obtain rfl := Option.some.inj H
                have hcv47 := own_string (P := Tryd.prog) Tryd.underlying23 Tryd.underlying5 Tryd.underlying9 (Kd.own_of_R HO_7.out)
                go_wp2
                go_ret
                exact ⟨by first | rfl | (simp [errW_none, errW_some] <;> rfl) | (simp [*, errW_none, errW_some] <;> rfl), by repeat (first | (with_reducible first | exact HB.out | apply below_alloc | apply pw_below_drewN | apply below_drew1) | exact HB.out)⟩
            · replace c42 := Bool.eq_false_iff.mpr c42
              subst c42
              have H1 : (some (strOfNums x7_2)) = some r := by rw [if_neg (show ¬ (false = true) by decide)] at H; exact H
              clear H
              have H := H1
              clear H1
              obtain rfl := Option.some.inj H
              have hcv48 := own_string (P := Tryd.prog) Tryd.underlying23 Tryd.underlying5 Tryd.underlying9 (Kd.own_of_R HO_7.out)
              go_wp2
              go_ret
              exact ⟨by first | rfl | (simp [errW_none, errW_some] <;> rfl) | (simp [*, errW_none, errW_some] <;> rfl), by repeat (first | (with_reducible first | exact HB.out | apply below_alloc | apply pw_below_drewN | apply below_drew1) | exact HB.out)⟩

end Go.Proofs.YtikgnlgmidbclaaDoor.PFnModulePath
