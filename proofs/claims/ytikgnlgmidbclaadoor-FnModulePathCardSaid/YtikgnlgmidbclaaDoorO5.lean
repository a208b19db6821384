/- The walks of spec.dirOk, spec.Key and modfile.zzIndex: each answers what its Lean function answers. Condition: that function answers. (Began as a text of print.sh.) -/
import Derived.Test.YtikgnlgmidbclaaDoorO0
import Derived.Test.YtikgnlgmidbclaaDoorO1
namespace Go.Proofs.YtikgnlgmidbclaaDoor.PFnModulePath
open Go.RowKit Go.Proofs.YtikgnlgmidbclaaDoorW.PrintWords Go.Proofs.YtikgnlgmidbclaaDoorW.PrintLast Go.Proofs.YtikgnlgmidbclaaDoorW.PrintMore
attribute [local go_sem] max2_int min2_int max_two min_two max_three min_three max_four min_four   -- for this text's walks alone
set_option linter.unusedVariables false
set_option linter.unusedSimpArgs false

/-! ### spec_dirOk: function 23 -/
def spec_dirOk.j0 : Nat → ByteArray → Bool → Option (Bool)
  | 0, _, _ => none
  | k + 1, x0, x3 => if x3 = true then (if 3 ≤ (x0.size : Int) then ((spec_wordOk.f k (x0.extract 3 x0.size)).bind fun t120 => (some t120)) else (none)) else (if (x0.size : Int) > 2 then (if 0 ≤ 2 then (if 2 ≤ (x0.size : Int) then (if (x0.extract 0 2).toList = ([46, 47] : List UInt8) then ((spec_wordOk.f k (x0.extract 2 x0.size)).bind fun t121 => (some t121)) else (some false)) else (none)) else (none)) else (some false))
def spec_dirOk.f (k : Nat) (a0 : ByteArray) : Option (Bool) := if (a0.size : Int) > 3 then (if 0 ≤ 3 then (if 3 ≤ (a0.size : Int) then (spec_dirOk.j0 k a0 ((a0.extract 0 3).toList == ([46, 46, 47] : List UInt8))) else (none)) else (none)) else (spec_dirOk.j0 k a0 false)
theorem spec_dirOk.mono_l : ∀ k, (∀ y0 y1, LeO (spec_dirOk.j0 k y0 y1) (spec_dirOk.j0 (k + 1) y0 y1))
  | 0 => fun _ _ r h => by simp [spec_dirOk.j0] at h
  | k + 1 => by
    have ih0 := spec_dirOk.mono_l k
    · intro y0 y1
      unfold spec_dirOk.j0
      repeat' first
      | (with_reducible exact ih0 _ _)
      | (with_reducible exact spec_wordOk.mono _ _)
      | (with_reducible exact LeO.refl _)
      | (with_reducible exact LeO.none _)
      | (with_reducible refine LeO.ite ?_ ?_)
      | (with_reducible refine LeO.bind ?_ (fun _ => ?_))
      | exact ih0 _ _
      | exact spec_wordOk.mono _ _
      | exact LeO.none _
      | refine LeO.ite ?_ ?_
      | refine LeO.bind ?_ (fun _ => ?_)
theorem spec_dirOk.mono : ∀ a0 k, LeO (spec_dirOk.f k a0) (spec_dirOk.f (k + 1) a0) := by
  intro a0 k
  have ih0 := spec_dirOk.mono_l k
  unfold spec_dirOk.f
  repeat' first
      | (with_reducible exact ih0 _ _)
      | (with_reducible exact spec_wordOk.mono _ _)
      | (with_reducible exact LeO.refl _)
      | (with_reducible exact LeO.none _)
      | (with_reducible refine LeO.ite ?_ ?_)
      | (with_reducible refine LeO.bind ?_ (fun _ => ?_))
      | exact ih0 _ _
      | exact spec_wordOk.mono _ _
      | exact LeO.none _
      | refine LeO.ite ?_ ?_
      | refine LeO.bind ?_ (fun _ => ?_)
set_option maxHeartbeats 8000000 in
set_option maxRecDepth 100000 in
theorem spec_dirOk.calls (k : Nat) (a0 : ByteArray) (r : Bool) (w : World) (h : spec_dirOk.f k a0 = some r) :
    Calls Tryd.prog 23 #[.string a0] w fun e w' => e = .returned (.bool r) ∧ Drawn0 w w' := by
  have H : (if (a0.size : Int) > 3 then (if 0 ≤ 3 then (if 3 ≤ (a0.size : Int) then (spec_dirOk.j0 k a0 ((a0.extract 0 3).toList == ([46, 46, 47] : List UInt8))) else (none)) else (none)) else (spec_dirOk.j0 k a0 false)) = some r := h
  clear h
  have HC2 := Aside0.mk H
  clear H
  go_enter Tryd.func23, Tryd.ntmps23
  go_upto_region 1 with (fail)
  go_cut [3] (fun v3 wc => ∃ (kq : Nat) (x3_1 : Bool), v3 = .bool x3_1 ∧ Aside0 (spec_dirOk.j0 kq a0 x3_1 = some r) ∧ Aside0 (kq ≤ k) ∧ Drawn0 w wc)
  case first =>
    have H := HC2.out
    clear HC2
    by_cases c3 : (a0.size : Int) > 3
    · rw [if_pos c3] at H
      have c3b0 : decide (3 < (a0.size : Int)) = true := decide_eq_true c3
      have c3b1 : decide (3 < a0.size) = true := decide_eq_true (by omega)
      clear c3
      (first | rw [c3b0] | (simp only [i64_w, i32_w]; rw [c3b0]) | skip)
      by_cases c4 : 0 ≤ 3
      · rw [if_pos c4] at H
        have c4b0 := eq_true c4
        have c4b1 : decide (0 ≤ 3) = true := decide_eq_true c4
        clear c4
        by_cases c5 : 3 ≤ (a0.size : Int)
        · rw [if_pos c5] at H
          have c5b0 := eq_true c5
          have c5b1 : decide (3 ≤ (a0.size : Int)) = true := decide_eq_true c5
          clear c5
          have H' := Aside0.mk H
          clear H
          go_wp2
          go_meet
          case rel => exact ⟨_, (((a0.extract 0 3).toList == ([46, 46, 47] : List UInt8))), (by first | rfl | (simp; done) | (simp [*]; done)), H', ⟨by first | omega | exact Nat.le_refl _⟩, by repeat (first | exact Drawn0.refl _ | apply Drawn0.step)⟩
        · rw [if_neg c5] at H
          exact absurd H (by simp)
      · rw [if_neg c4] at H
        exact absurd H (by simp)
    · rw [if_neg c3] at H
      have c3b0 : decide (3 < (a0.size : Int)) = false := decide_eq_false c3
      have c3b1 : decide (3 < a0.size) = false := decide_eq_false (by omega)
      clear c3
      (first | rw [c3b0] | (simp only [i64_w, i32_w]; rw [c3b0]) | skip)
      have H' := Aside0.mk H
      clear H
      go_wp2
      go_meet
      case rel => exact ⟨_, (false), (by first | rfl | (simp; done) | (simp [*]; done)), H', ⟨by first | omega | exact Nat.le_refl _⟩, by repeat (first | exact Drawn0.refl _ | apply Drawn0.step)⟩
  case rest =>
    clear HC2
    try clear c2
    try clear p2
    try clear c3
    try clear c3b0
    try clear c3b1
    try clear c4
    try clear c4b0
    try clear c4b1
    try clear c5
    try clear c5b0
    try clear c5b1
    obtain ⟨kq, x3_1, rfl, HA, HJ1, ⟨mc1, rfl⟩⟩ := hcut
    cases kq with
    | zero => exact absurd HA.out (by simp [spec_dirOk.j0])
    | succ kj1 =>
      have H := HA.out
      clear HA
      simp only [spec_dirOk.j0] at H
      by_cases c6 : x3_1 = true
      · subst c6
        have H1 : (if 3 ≤ (a0.size : Int) then ((spec_wordOk.f kj1 (a0.extract 3 a0.size)).bind fun t120 => (some t120)) else (none)) = some r := by rw [if_pos rfl] at H; exact H
        clear H
        have H := H1
        clear H1
        by_cases c7 : 3 ≤ (a0.size : Int)
        · rw [if_pos c7] at H
          have c7b0 := eq_true c7
          have c7b1 : decide (3 ≤ (a0.size : Int)) = true := decide_eq_true c7
          clear c7
          replace H := Option.bind_eq_some_iff.mp H
          obtain ⟨t120, A80, H⟩ := H
          replace H : (some t120) = some r := H
          have A8 := Aside0.mk A80
          clear A80
          obtain rfl := Option.some.inj H
          go_wp2_with (first | ((with_reducible refine gate_callee (f := 22) rfl ?_); refine goesL_ (some 14) rfl rfl Tryd.func22 (by kernel_rfl) rfl #[.string (a0.extract 3 a0.size)] rfl (by (try simp only [List.map_toArray, List.map_cons, List.map_nil]); first | done | rfl | (simp only [List.length_drop, List.length_take]; rfl)) ?_; (with_reducible refine (spec_wordOk.calls kj1 (a0.extract 3 a0.size) t120 _ A8.out).mono ?_); rintro e w' ⟨rfl, ⟨nd, rfl⟩⟩; refine ⟨_, rfl, ?_⟩))
          go_ret
          exact ⟨by first | rfl | (simp; done) | (simp [*]; done), by repeat (first | exact Drawn0.refl _ | apply Drawn0.step)⟩
        · rw [if_neg c7] at H
          exact absurd H (by simp)
      · replace c6 := Bool.eq_false_iff.mpr c6
        subst c6
        have H1 : (if (a0.size : Int) > 2 then (if 0 ≤ 2 then (if 2 ≤ (a0.size : Int) then (if (a0.extract 0 2).toList = ([46, 47] : List UInt8) then ((spec_wordOk.f kj1 (a0.extract 2 a0.size)).bind fun t121 => (some t121)) else (some false)) else (none)) else (none)) else (some false)) = some r := by rw [if_neg (show ¬ (false = true) by decide)] at H; exact H
        clear H
        have H := H1
        clear H1
        by_cases c9 : (a0.size : Int) > 2
        · rw [if_pos c9] at H
          have c9b0 : decide (2 < (a0.size : Int)) = true := decide_eq_true c9
          have c9b1 : decide (2 < a0.size) = true := decide_eq_true (by omega)
          clear c9
          by_cases c10 : 0 ≤ 2
          · rw [if_pos c10] at H
            have c10b0 := eq_true c10
            have c10b1 : decide (0 ≤ 2) = true := decide_eq_true c10
            clear c10
            by_cases c11 : 2 ≤ (a0.size : Int)
            · rw [if_pos c11] at H
              have c11b0 := eq_true c11
              have c11b1 : decide (2 ≤ (a0.size : Int)) = true := decide_eq_true c11
              clear c11
              by_cases c12 : (a0.extract 0 2).toList = ([46, 47] : List UInt8)
              · rw [if_pos c12] at H
                have c12b0 : ((a0.extract 0 2).toList == ([46, 47] : List UInt8)) = true := beq_iff_eq.mpr c12
                have c12b1 : ((a0.extract 0 2).toList != ([46, 47] : List UInt8)) = false := bne_eq_false_iff_eq.mpr c12
                clear c12
                have c13b0 := eq_true (of_decide_eq_true (by first | (with_reducible assumption) | assumption) : 2 ≤ (a0.size : Int))
                replace H := Option.bind_eq_some_iff.mp H
                obtain ⟨t121, A140, H⟩ := H
                replace H : (some t121) = some r := H
                have A14 := Aside0.mk A140
                clear A140
                obtain rfl := Option.some.inj H
                go_wp2_with (first | ((with_reducible refine gate_callee (f := 22) rfl ?_); refine goesL_ (some 26) rfl rfl Tryd.func22 (by kernel_rfl) rfl #[.string (a0.extract 2 a0.size)] rfl (by (try simp only [List.map_toArray, List.map_cons, List.map_nil]); first | done | rfl | (simp only [List.length_drop, List.length_take]; rfl)) ?_; (with_reducible refine (spec_wordOk.calls kj1 (a0.extract 2 a0.size) t121 _ A14.out).mono ?_); rintro e w' ⟨rfl, ⟨nd, rfl⟩⟩; refine ⟨_, rfl, ?_⟩))
                go_ret
                exact ⟨by first | rfl | (simp; done) | (simp [*]; done), by repeat (first | exact Drawn0.refl _ | apply Drawn0.step)⟩
              · rw [if_neg c12] at H
                have c12b0 : ((a0.extract 0 2).toList == ([46, 47] : List UInt8)) = false := beq_eq_false_iff_ne.mpr c12
                have c12b1 : ((a0.extract 0 2).toList != ([46, 47] : List UInt8)) = true := bne_iff_ne.mpr c12
                obtain rfl := Option.some.inj H
                go_wp2
                go_ret
                exact ⟨by first | rfl | (simp; done) | (simp [*]; done), by repeat (first | exact Drawn0.refl _ | apply Drawn0.step)⟩
            · rw [if_neg c11] at H
              exact absurd H (by simp)
          · rw [if_neg c10] at H
            exact absurd H (by simp)
        · rw [if_neg c9] at H
          have c9b0 : decide (2 < (a0.size : Int)) = false := decide_eq_false c9
          have c9b1 : decide (2 < a0.size) = false := decide_eq_false (by omega)
          clear c9
          obtain rfl := Option.some.inj H
          go_wp2
          go_ret
          exact ⟨by first | rfl | (simp; done) | (simp [*]; done), by repeat (first | exact Drawn0.refl _ | apply Drawn0.step)⟩

-- NOT PRINTED: function 10 (spec_EntryOk)

/-! ### spec_Key: function 12 -/
def spec_Key.j0 : Nat → Int → Bool → Int → List ByteArray → Bool → Option (ByteArray)
  | 0, _, _, _, _, _ => none
  | k + 1, x4, x5, x185000, x185001, x185002 => if x5 = true then (if 0 < (x185001.length : Int) then (some (rdOf ByteArray.empty x185001 0)) else (none)) else (if x4 = 6 then (if 0 < (x185001.length : Int) then (if (rdOf ByteArray.empty x185001 0).size + 1 ≤ 9223372036854775807 then (if 1 < (x185001.length : Int) then (if ((rdOf ByteArray.empty x185001 0) ++ (⟨#[32]⟩ : ByteArray)).size + (rdOf ByteArray.empty x185001 1).size ≤ 9223372036854775807 then (some (((rdOf ByteArray.empty x185001 0) ++ (⟨#[32]⟩ : ByteArray)) ++ (rdOf ByteArray.empty x185001 1))) else (none)) else (none)) else (none)) else (none)) else (if x4 = 7 then (if 0 < (x185001.length : Int) then (if (rdOf ByteArray.empty x185001 0).size + 1 ≤ 9223372036854775807 then (if 1 < (x185001.length : Int) then (if ((rdOf ByteArray.empty x185001 0) ++ (⟨#[32]⟩ : ByteArray)).size + (rdOf ByteArray.empty x185001 1).size ≤ 9223372036854775807 then (some (((rdOf ByteArray.empty x185001 0) ++ (⟨#[32]⟩ : ByteArray)) ++ (rdOf ByteArray.empty x185001 1))) else (none)) else (none)) else (none)) else (none)) else (if x4 = 8 then (if 0 < (x185001.length : Int) then (if (rdOf ByteArray.empty x185001 0).size + 1 ≤ 9223372036854775807 then (if 1 < (x185001.length : Int) then (if ((rdOf ByteArray.empty x185001 0) ++ (⟨#[32]⟩ : ByteArray)).size + (rdOf ByteArray.empty x185001 1).size ≤ 9223372036854775807 then (some (((rdOf ByteArray.empty x185001 0) ++ (⟨#[32]⟩ : ByteArray)) ++ (rdOf ByteArray.empty x185001 1))) else (none)) else (none)) else (none)) else (none)) else (if 0 < (x185001.length : Int) then (some (rdOf ByteArray.empty x185001 0)) else (none)))))
def spec_Key.f (k : Nat) (a0_0 : Int) (l0_1 : List ByteArray) (a0_2 : Bool) : Option (ByteArray) := if a0_0 = 4 then (spec_Key.j0 k a0_0 (a0_0 == 4) a0_0 l0_1 a0_2) else (spec_Key.j0 k a0_0 (a0_0 == 5) a0_0 l0_1 a0_2)
theorem spec_Key.mono_l : ∀ k, (∀ y0 y1 y2 y3 y4, LeO (spec_Key.j0 k y0 y1 y2 y3 y4) (spec_Key.j0 (k + 1) y0 y1 y2 y3 y4))
  | 0 => fun _ _ _ _ _ r h => by simp [spec_Key.j0] at h
  | k + 1 => by
    have ih0 := spec_Key.mono_l k
    · intro y0 y1 y2 y3 y4
      unfold spec_Key.j0
      repeat' first
      | (with_reducible exact ih0 _ _ _ _ _)
      | (with_reducible exact LeO.refl _)
      | (with_reducible exact LeO.none _)
      | (with_reducible refine LeO.ite ?_ ?_)
      | (with_reducible refine LeO.bind ?_ (fun _ => ?_))
      | exact ih0 _ _ _ _ _
      | exact LeO.none _
      | refine LeO.ite ?_ ?_
      | refine LeO.bind ?_ (fun _ => ?_)
theorem spec_Key.mono : ∀ a0 a1 a2 k, LeO (spec_Key.f k a0 a1 a2) (spec_Key.f (k + 1) a0 a1 a2) := by
  intro a0 a1 a2 k
  have ih0 := spec_Key.mono_l k
  unfold spec_Key.f
  repeat' first
      | (with_reducible exact ih0 _ _ _ _ _)
      | (with_reducible exact LeO.refl _)
      | (with_reducible exact LeO.none _)
      | (with_reducible refine LeO.ite ?_ ?_)
      | (with_reducible refine LeO.bind ?_ (fun _ => ?_))
      | exact ih0 _ _ _ _ _
      | exact LeO.none _
      | refine LeO.ite ?_ ?_
      | refine LeO.bind ?_ (fun _ => ?_)
set_option maxHeartbeats 8000000 in
set_option maxRecDepth 100000 in
theorem spec_Key.calls (k : Nat) (a0_0 : Int) (A0_1 : Option Addr) (c0_1 : Nat) (l0_1 : List ByteArray) (a0_2 : Bool) (r : ByteArray) (w : World) (hr0_1 : Kd.C Kd.string w A0_1 l0_1.length l0_1) (hc0_1 : l0_1.length ≤ c0_1) (h : spec_Key.f k a0_0 l0_1 a0_2 = some r) :
    Calls Tryd.prog 12 #[.agg #[.int .i64 a0_0, .slice A0_1 l0_1.length c0_1, .bool a0_2]] w fun e w' => e = .returned (.string r) ∧ Below w.heap.size w w' := by
  have hu29 := Tryd.underlying29
  have HR0_1 := Aside0.mk hr0_1
  have HC0_1 := Aside0.mk hc0_1
  clear hr0_1 hc0_1
  have HB := Aside0.mk (Below.refl w.heap.size w)
  have H : (if a0_0 = 4 then (spec_Key.j0 k a0_0 (a0_0 == 4) a0_0 l0_1 a0_2) else (spec_Key.j0 k a0_0 (a0_0 == 5) a0_0 l0_1 a0_2)) = some r := h
  clear h
  have HC2 := Aside0.mk H
  clear H
  go_enter Tryd.func12, Tryd.ntmps12
  go_upto_if 5 with (first | ((with_reducible refine gate_dst (N := 1) rfl ?_); refine box_event ?hg (N := 1) ?hd (cs := #[.int .i64 a0_0, .slice A0_1 l0_1.length c0_1, .bool a0_2]) (t := 29) ?hr ?_; (case hd => rfl); (case hg => rfl); (case hr => first | (go_simp; done) | (go_simp; rfl)); intro gb184 hg w3 hbox hb; have n0_ := Aside0.mk (below_step (by repeat (first | (with_reducible first | exact HB.out | apply below_alloc | apply pw_below_drewN | apply below_drew1) | exact HB.out)) hb); have n1_ := Aside0.mk (hbox); have n2_ := Aside0.mk ((by rw [hg]; exact (below_size (by repeat (first | (with_reducible first | exact HB.out | apply below_alloc | apply pw_below_drewN | apply below_drew1) | exact HB.out))) : w.heap.size ≤ gb184)); have n3_ := Aside0.mk ((by rw [hg]; exact (below_size (by repeat (first | (with_reducible first | exact HB.out | apply below_alloc | apply pw_below_drewN | apply below_drew1) | exact HB.out))) : w.heap.size ≤ gb184)); clear HB; have HB := n0_; have BK184 := n1_; have GW184 := n2_; have GE184 := n3_; clear n0_ n1_ n2_ n3_; clear hb hbox hg; have hcz4_0 : w3.cell? ⟨gb184, 0, none⟩ = some (.int .i64 a0_0) := (blk_cell BK184.out 0).trans rfl; have hcz4_1 : w3.cell? ⟨gb184, 1, none⟩ = some (.slice A0_1 l0_1.length c0_1) := (blk_cell BK184.out 1).trans rfl; have hcz4_2 : w3.cell? ⟨gb184, 2, none⟩ = some (.bool a0_2) := (blk_cell BK184.out 2).trans rfl; have hfz4_0 := blk_frozen BK184.out 0; have hfz4_1 := blk_frozen BK184.out 1; have hfz4_2 := blk_frozen BK184.out 2))
  repeat (go_quiet (first | ((with_reducible refine gate_dst (N := 1) rfl ?_); refine box_event ?hg (N := 1) ?hd (cs := #[.int .i64 a0_0, .slice A0_1 l0_1.length c0_1, .bool a0_2]) (t := 29) ?hr ?_; (case hd => rfl); (case hg => rfl); (case hr => first | (go_simp; done) | (go_simp; rfl)); intro gb184 hg w3 hbox hb; have n0_ := Aside0.mk (below_step (by repeat (first | (with_reducible first | exact HB.out | apply below_alloc | apply pw_below_drewN | apply below_drew1) | exact HB.out)) hb); have n1_ := Aside0.mk (hbox); have n2_ := Aside0.mk ((by rw [hg]; exact (below_size (by repeat (first | (with_reducible first | exact HB.out | apply below_alloc | apply pw_below_drewN | apply below_drew1) | exact HB.out))) : w.heap.size ≤ gb184)); have n3_ := Aside0.mk ((by rw [hg]; exact (below_size (by repeat (first | (with_reducible first | exact HB.out | apply below_alloc | apply pw_below_drewN | apply below_drew1) | exact HB.out))) : w.heap.size ≤ gb184)); clear HB; have HB := n0_; have BK184 := n1_; have GW184 := n2_; have GE184 := n3_; clear n0_ n1_ n2_ n3_; clear hb hbox hg; have hcz4_0 : w3.cell? ⟨gb184, 0, none⟩ = some (.int .i64 a0_0) := (blk_cell BK184.out 0).trans rfl; have hcz4_1 : w3.cell? ⟨gb184, 1, none⟩ = some (.slice A0_1 l0_1.length c0_1) := (blk_cell BK184.out 1).trans rfl; have hcz4_2 : w3.cell? ⟨gb184, 2, none⟩ = some (.bool a0_2) := (blk_cell BK184.out 2).trans rfl; have hfz4_0 := blk_frozen BK184.out 0; have hfz4_1 := blk_frozen BK184.out 1; have hfz4_2 := blk_frozen BK184.out 2)); go_upto_if 5 with (first | ((with_reducible refine gate_dst (N := 1) rfl ?_); refine box_event ?hg (N := 1) ?hd (cs := #[.int .i64 a0_0, .slice A0_1 l0_1.length c0_1, .bool a0_2]) (t := 29) ?hr ?_; (case hd => rfl); (case hg => rfl); (case hr => first | (go_simp; done) | (go_simp; rfl)); intro gb184 hg w3 hbox hb; have n0_ := Aside0.mk (below_step (by repeat (first | (with_reducible first | exact HB.out | apply below_alloc | apply pw_below_drewN | apply below_drew1) | exact HB.out)) hb); have n1_ := Aside0.mk (hbox); have n2_ := Aside0.mk ((by rw [hg]; exact (below_size (by repeat (first | (with_reducible first | exact HB.out | apply below_alloc | apply pw_below_drewN | apply below_drew1) | exact HB.out))) : w.heap.size ≤ gb184)); have n3_ := Aside0.mk ((by rw [hg]; exact (below_size (by repeat (first | (with_reducible first | exact HB.out | apply below_alloc | apply pw_below_drewN | apply below_drew1) | exact HB.out))) : w.heap.size ≤ gb184)); clear HB; have HB := n0_; have BK184 := n1_; have GW184 := n2_; have GE184 := n3_; clear n0_ n1_ n2_ n3_; clear hb hbox hg; have hcz4_0 : w3.cell? ⟨gb184, 0, none⟩ = some (.int .i64 a0_0) := (blk_cell BK184.out 0).trans rfl; have hcz4_1 : w3.cell? ⟨gb184, 1, none⟩ = some (.slice A0_1 l0_1.length c0_1) := (blk_cell BK184.out 1).trans rfl; have hcz4_2 : w3.cell? ⟨gb184, 2, none⟩ = some (.bool a0_2) := (blk_cell BK184.out 2).trans rfl; have hfz4_0 := blk_frozen BK184.out 0; have hfz4_1 := blk_frozen BK184.out 1; have hfz4_2 := blk_frozen BK184.out 2)))
  (try simp only [Act.put, List.setIfInBounds_toArray, List.set_cons_zero, List.set_cons_succ])
  go_cut [5] (fun v5 wc => ∃ (kq : Nat) (x5_1 : Bool), v5 = .bool x5_1 ∧ Aside0 (spec_Key.j0 kq a0_0 x5_1 a0_0 l0_1 a0_2 = some r) ∧ Aside0 (kq ≤ k) ∧ Aside0 (wc.heap[gb184]? = some (.cells #[.int .i64 a0_0, (.slice A0_1 l0_1.length c0_1), .bool a0_2] 29 (0, 0))) ∧ Aside0 (Below w.heap.size w wc))
  case first =>
    have H := HC2.out
    clear HC2
    by_cases c5 : a0_0 = 4
    · rw [if_pos c5] at H
      have c5b0 : (a0_0 == 4) = true := beq_iff_eq.mpr c5
      have c5b1 : (a0_0 != 4) = false := bne_eq_false_iff_eq.mpr c5
      clear c5
      (first | rw [c5b0] | (simp only [i64_w, i32_w]; rw [c5b0]) | skip)
      have H' := Aside0.mk H
      clear H
      go_wp2
      repeat (go_quiet (fail); try go_wp2)
      go_meet
      case rel => exact ⟨_, ((a0_0 == 4)), (by first | rfl | (simp; done) | (simp [*]; done)), H', ⟨by first | omega | exact Nat.le_refl _⟩, ⟨by (with_reducible repeat (first | refine blk_drewN ?_ _ | refine blk_drew ?_ | refine blk_alloc ?_ _)); exact BK184.out⟩, ⟨by repeat (first | (with_reducible first | exact HB.out | apply below_alloc | apply pw_below_drewN | apply below_drew1 | refine below_set ?_ GE184.out) | exact HB.out)⟩⟩
    · rw [if_neg c5] at H
      have c5b0 : (a0_0 == 4) = false := beq_eq_false_iff_ne.mpr c5
      have c5b1 : (a0_0 != 4) = true := bne_iff_ne.mpr c5
      (first | rw [c5b0] | (simp only [i64_w, i32_w]; rw [c5b0]) | skip)
      have H' := Aside0.mk H
      clear H
      go_wp2
      repeat (go_quiet (fail); try go_wp2)
      go_meet
      case rel => exact ⟨_, ((a0_0 == 5)), (by first | rfl | (simp; done) | (simp [*]; done)), H', ⟨by first | omega | exact Nat.le_refl _⟩, ⟨by (with_reducible repeat (first | refine blk_drewN ?_ _ | refine blk_drew ?_ | refine blk_alloc ?_ _)); exact BK184.out⟩, ⟨by repeat (first | (with_reducible first | exact HB.out | apply below_alloc | apply pw_below_drewN | apply below_drew1 | refine below_set ?_ GE184.out) | exact HB.out)⟩⟩
  case rest =>
    clear HC2
    try clear c1
    try clear p2
    try clear c5
    try clear c5b0
    try clear c5b1
    try clear hcz4_0
    try clear hcz4_1
    try clear hcz4_2
    try clear hfz4_0
    try clear hfz4_1
    try clear hfz4_2
    obtain ⟨kq, x5_1, rfl, HA, HJ1, BK184, HB⟩ := hcut
    cases kq with
    | zero => exact absurd HA.out (by simp [spec_Key.j0])
    | succ kj1 =>
      have H := HA.out
      clear HA
      simp only [spec_Key.j0] at H
      by_cases c6 : x5_1 = true
      · subst c6
        have H1 : (if 0 < (l0_1.length : Int) then (some (rdOf ByteArray.empty l0_1 0)) else (none)) = some r := by rw [if_pos rfl] at H; exact H
        clear H
        have H := H1
        clear H1
        by_cases c7 : 0 < (l0_1.length : Int)
        · rw [if_pos c7] at H
          have c7b0 : decide (0 < (l0_1.length : Int)) = true := decide_eq_true c7
          have c7b1 : decide (0 < l0_1.length) = true := decide_eq_true (by omega)
          clear c7
          obtain rfl := Option.some.inj H
          have hcz8_0 : wc.cell? ⟨gb184, 0, none⟩ = some (.int .i64 a0_0) := (blk_cell BK184.out 0).trans rfl
          have hcz8_1 : wc.cell? ⟨gb184, 1, none⟩ = some (.slice A0_1 l0_1.length c0_1) := (blk_cell BK184.out 1).trans rfl
          have hcz8_2 : wc.cell? ⟨gb184, 2, none⟩ = some (.bool a0_2) := (blk_cell BK184.out 2).trans rfl
          have hfz8_0 := blk_frozen BK184.out 0
          have hfz8_1 := blk_frozen BK184.out 1
          have hfz8_2 := blk_frozen BK184.out 2
          have p185 : 0 ≤ (0 : Int) := (by omega)
          have q185 : 0 < (l0_1.length : Int) := of_decide_eq_true (by first | (with_reducible assumption) | assumption)
          obtain ⟨ad185, e185, hx185_0⟩ := Kd.at_string HR0_1.out 0 p185 q185
          cases e185
          have qi185 : (0 < l0_1.length) = True := eq_true (by omega)
          (try rw [show ((0 : Int)).toNat = 0 from rfl] at hx185_0)
          (try rw [Addr.add_zero'] at hx185_0)
          replace hx185_0 := (HB.out.cell (World.block_lt_of_cell? w _ hx185_0)).trans hx185_0
          replace p185 := eq_true p185
          replace q185 := eq_true q185
          go_wp2
          repeat (go_quiet (fail); try go_wp2)
          go_ret
          exact ⟨by first | rfl | (simp [errW_none, errW_some] <;> rfl) | (simp [*, errW_none, errW_some] <;> rfl), by repeat (first | (with_reducible first | exact HB.out | apply below_alloc | apply pw_below_drewN | apply below_drew1 | refine below_set ?_ GE184.out) | exact HB.out)⟩
        · rw [if_neg c7] at H
          exact absurd H (by simp)
      · replace c6 := Bool.eq_false_iff.mpr c6
        subst c6
        have H1 : (if a0_0 = 6 then (if 0 < (l0_1.length : Int) then (if (rdOf ByteArray.empty l0_1 0).size + 1 ≤ 9223372036854775807 then (if 1 < (l0_1.length : Int) then (if ((rdOf ByteArray.empty l0_1 0) ++ (⟨#[32]⟩ : ByteArray)).size + (rdOf ByteArray.empty l0_1 1).size ≤ 9223372036854775807 then (some (((rdOf ByteArray.empty l0_1 0) ++ (⟨#[32]⟩ : ByteArray)) ++ (rdOf ByteArray.empty l0_1 1))) else (none)) else (none)) else (none)) else (none)) else (if a0_0 = 7 then (if 0 < (l0_1.length : Int) then (if (rdOf ByteArray.empty l0_1 0).size + 1 ≤ 9223372036854775807 then (if 1 < (l0_1.length : Int) then (if ((rdOf ByteArray.empty l0_1 0) ++ (⟨#[32]⟩ : ByteArray)).size + (rdOf ByteArray.empty l0_1 1).size ≤ 9223372036854775807 then (some (((rdOf ByteArray.empty l0_1 0) ++ (⟨#[32]⟩ : ByteArray)) ++ (rdOf ByteArray.empty l0_1 1))) else (none)) else (none)) else (none)) else (none)) else (if a0_0 = 8 then (if 0 < (l0_1.length : Int) then (if (rdOf ByteArray.empty l0_1 0).size + 1 ≤ 9223372036854775807 then (if 1 < (l0_1.length : Int) then (if ((rdOf ByteArray.empty l0_1 0) ++ (⟨#[32]⟩ : ByteArray)).size + (rdOf ByteArray.empty l0_1 1).size ≤ 9223372036854775807 then (some (((rdOf ByteArray.empty l0_1 0) ++ (⟨#[32]⟩ : ByteArray)) ++ (rdOf ByteArray.empty l0_1 1))) else (none)) else (none)) else (none)) else (none)) else (if 0 < (l0_1.length : Int) then (some (rdOf ByteArray.empty l0_1 0)) else (none))))) = some r := by rw [if_neg (show ¬ (false = true) by decide)] at H; exact H
        clear H
        have H := H1
        clear H1
        by_cases c9 : a0_0 = 6
        · rw [if_pos c9] at H
          have c9b0 : (a0_0 == 6) = true := beq_iff_eq.mpr c9
          have c9b1 : (a0_0 != 6) = false := bne_eq_false_iff_eq.mpr c9
          clear c9
          by_cases c10 : 0 < (l0_1.length : Int)
          · rw [if_pos c10] at H
            have c10b0 : decide (0 < (l0_1.length : Int)) = true := decide_eq_true c10
            have c10b1 : decide (0 < l0_1.length) = true := decide_eq_true (by omega)
            clear c10
            by_cases c11 : (rdOf ByteArray.empty l0_1 0).size + 1 ≤ 9223372036854775807
            · rw [if_pos c11] at H
              have c11b0 := eq_true c11
              have c11b1 : decide ((rdOf ByteArray.empty l0_1 0).size + 1 ≤ 9223372036854775807) = true := decide_eq_true c11
              try have c11b2 : (9223372036854775807 < (rdOf ByteArray.empty l0_1 0).size + 1) = False := eq_false (Nat.not_lt.2 c11)
              by_cases c12 : 1 < (l0_1.length : Int)
              · rw [if_pos c12] at H
                have c12b0 : decide (1 < (l0_1.length : Int)) = true := decide_eq_true c12
                have c12b1 : decide (1 < l0_1.length) = true := decide_eq_true (by omega)
                clear c12
                by_cases c13 : ((rdOf ByteArray.empty l0_1 0) ++ (⟨#[32]⟩ : ByteArray)).size + (rdOf ByteArray.empty l0_1 1).size ≤ 9223372036854775807
                · rw [if_pos c13] at H
                  have c13b0 := eq_true c13
                  have c13b1 : decide (((rdOf ByteArray.empty l0_1 0) ++ (⟨#[32]⟩ : ByteArray)).size + (rdOf ByteArray.empty l0_1 1).size ≤ 9223372036854775807) = true := decide_eq_true c13
                  try have c13b2 : (9223372036854775807 < ((rdOf ByteArray.empty l0_1 0) ++ (⟨#[32]⟩ : ByteArray)).size + (rdOf ByteArray.empty l0_1 1).size) = False := eq_false (Nat.not_lt.2 c13)
                  obtain rfl := Option.some.inj H
                  have hcz14_0 : wc.cell? ⟨gb184, 0, none⟩ = some (.int .i64 a0_0) := (blk_cell BK184.out 0).trans rfl
                  have hcz14_1 : wc.cell? ⟨gb184, 1, none⟩ = some (.slice A0_1 l0_1.length c0_1) := (blk_cell BK184.out 1).trans rfl
                  have hcz14_2 : wc.cell? ⟨gb184, 2, none⟩ = some (.bool a0_2) := (blk_cell BK184.out 2).trans rfl
                  have hfz14_0 := blk_frozen BK184.out 0
                  have hfz14_1 := blk_frozen BK184.out 1
                  have hfz14_2 := blk_frozen BK184.out 2
                  have p186 : 0 ≤ (0 : Int) := (by omega)
                  have q186 : 0 < (l0_1.length : Int) := of_decide_eq_true (by first | (with_reducible assumption) | assumption)
                  obtain ⟨ad186, e186, hx186_0⟩ := Kd.at_string HR0_1.out 0 p186 q186
                  cases e186
                  have qi186 : (0 < l0_1.length) = True := eq_true (by omega)
                  (try rw [show ((0 : Int)).toNat = 0 from rfl] at hx186_0)
                  (try rw [Addr.add_zero'] at hx186_0)
                  replace hx186_0 := (HB.out.cell (World.block_lt_of_cell? w _ hx186_0)).trans hx186_0
                  replace p186 := eq_true p186
                  replace q186 := eq_true q186
                  have p187 : 0 ≤ (1 : Int) := (by omega)
                  have q187 : 1 < (l0_1.length : Int) := of_decide_eq_true (by first | (with_reducible assumption) | assumption)
                  obtain ⟨ad187, e187, hx187_0⟩ := Kd.at_string HR0_1.out 1 p187 q187
                  obtain rfl : ad186 = ad187 := (by injection e187)
                  (try simp only [show (1 : Int).toNat = 1 from rfl, Nat.reduceMul, Nat.reduceEqDiff, Go.Addr.add, ↓reduceIte] at hx187_0)
                  have qi187 : (1 < l0_1.length) = True := eq_true (by omega)
                  (try rw [show ((1 : Int)).toNat = 1 from rfl] at hx187_0)
                  replace hx187_0 := (HB.out.cell (World.block_lt_of_cell? w _ hx187_0)).trans hx187_0
                  replace p187 := eq_true p187
                  replace q187 := eq_true q187
                  go_wp2
                  repeat (go_quiet (fail); try go_wp2)
                  go_ret
                  exact ⟨by first | rfl | (simp [errW_none, errW_some] <;> rfl) | (simp [*, errW_none, errW_some] <;> rfl), by repeat (first | (with_reducible first | exact HB.out | apply below_alloc | apply pw_below_drewN | apply below_drew1 | refine below_set ?_ GE184.out) | exact HB.out)⟩
                · rw [if_neg c13] at H
                  exact absurd H (by simp)
              · rw [if_neg c12] at H
                exact absurd H (by simp)
            · rw [if_neg c11] at H
              exact absurd H (by simp)
          · rw [if_neg c10] at H
            exact absurd H (by simp)
        · rw [if_neg c9] at H
          have c9b0 : (a0_0 == 6) = false := beq_eq_false_iff_ne.mpr c9
          have c9b1 : (a0_0 != 6) = true := bne_iff_ne.mpr c9
          by_cases c15 : a0_0 = 7
          · rw [if_pos c15] at H
            have c15b0 : (a0_0 == 7) = true := beq_iff_eq.mpr c15
            have c15b1 : (a0_0 != 7) = false := bne_eq_false_iff_eq.mpr c15
            clear c15
            by_cases c16 : 0 < (l0_1.length : Int)
            · rw [if_pos c16] at H
              have c16b0 : decide (0 < (l0_1.length : Int)) = true := decide_eq_true c16
              have c16b1 : decide (0 < l0_1.length) = true := decide_eq_true (by omega)
              clear c16
              by_cases c17 : (rdOf ByteArray.empty l0_1 0).size + 1 ≤ 9223372036854775807
              · rw [if_pos c17] at H
                have c17b0 := eq_true c17
                have c17b1 : decide ((rdOf ByteArray.empty l0_1 0).size + 1 ≤ 9223372036854775807) = true := decide_eq_true c17
                try have c17b2 : (9223372036854775807 < (rdOf ByteArray.empty l0_1 0).size + 1) = False := eq_false (Nat.not_lt.2 c17)
                by_cases c18 : 1 < (l0_1.length : Int)
                · rw [if_pos c18] at H
                  have c18b0 : decide (1 < (l0_1.length : Int)) = true := decide_eq_true c18
                  have c18b1 : decide (1 < l0_1.length) = true := decide_eq_true (by omega)
                  clear c18
                  by_cases c19 : ((rdOf ByteArray.empty l0_1 0) ++ (⟨#[32]⟩ : ByteArray)).size + (rdOf ByteArray.empty l0_1 1).size ≤ 9223372036854775807
                  · rw [if_pos c19] at H
                    have c19b0 := eq_true c19
                    have c19b1 : decide (((rdOf ByteArray.empty l0_1 0) ++ (⟨#[32]⟩ : ByteArray)).size + (rdOf ByteArray.empty l0_1 1).size ≤ 9223372036854775807) = true := decide_eq_true c19
                    try have c19b2 : (9223372036854775807 < ((rdOf ByteArray.empty l0_1 0) ++ (⟨#[32]⟩ : ByteArray)).size + (rdOf ByteArray.empty l0_1 1).size) = False := eq_false (Nat.not_lt.2 c19)
                    obtain rfl := Option.some.inj H
                    have hcz20_0 : wc.cell? ⟨gb184, 0, none⟩ = some (.int .i64 a0_0) := (blk_cell BK184.out 0).trans rfl
                    have hcz20_1 : wc.cell? ⟨gb184, 1, none⟩ = some (.slice A0_1 l0_1.length c0_1) := (blk_cell BK184.out 1).trans rfl
                    have hcz20_2 : wc.cell? ⟨gb184, 2, none⟩ = some (.bool a0_2) := (blk_cell BK184.out 2).trans rfl
                    have hfz20_0 := blk_frozen BK184.out 0
                    have hfz20_1 := blk_frozen BK184.out 1
                    have hfz20_2 := blk_frozen BK184.out 2
                    have p188 : 0 ≤ (0 : Int) := (by omega)
                    have q188 : 0 < (l0_1.length : Int) := of_decide_eq_true (by first | (with_reducible assumption) | assumption)
                    obtain ⟨ad188, e188, hx188_0⟩ := Kd.at_string HR0_1.out 0 p188 q188
                    cases e188
                    have qi188 : (0 < l0_1.length) = True := eq_true (by omega)
                    (try rw [show ((0 : Int)).toNat = 0 from rfl] at hx188_0)
                    (try rw [Addr.add_zero'] at hx188_0)
                    replace hx188_0 := (HB.out.cell (World.block_lt_of_cell? w _ hx188_0)).trans hx188_0
                    replace p188 := eq_true p188
                    replace q188 := eq_true q188
                    have p189 : 0 ≤ (1 : Int) := (by omega)
                    have q189 : 1 < (l0_1.length : Int) := of_decide_eq_true (by first | (with_reducible assumption) | assumption)
                    obtain ⟨ad189, e189, hx189_0⟩ := Kd.at_string HR0_1.out 1 p189 q189
                    obtain rfl : ad188 = ad189 := (by injection e189)
                    (try simp only [show (1 : Int).toNat = 1 from rfl, Nat.reduceMul, Nat.reduceEqDiff, Go.Addr.add, ↓reduceIte] at hx189_0)
                    have qi189 : (1 < l0_1.length) = True := eq_true (by omega)
                    (try rw [show ((1 : Int)).toNat = 1 from rfl] at hx189_0)
                    replace hx189_0 := (HB.out.cell (World.block_lt_of_cell? w _ hx189_0)).trans hx189_0
                    replace p189 := eq_true p189
                    replace q189 := eq_true q189
                    go_wp2
                    repeat (go_quiet (fail); try go_wp2)
                    go_ret
                    exact ⟨by first | rfl | (simp [errW_none, errW_some] <;> rfl) | (simp [*, errW_none, errW_some] <;> rfl), by repeat (first | (with_reducible first | exact HB.out | apply below_alloc | apply pw_below_drewN | apply below_drew1 | refine below_set ?_ GE184.out) | exact HB.out)⟩
                  · rw [if_neg c19] at H
                    exact absurd H (by simp)
                · rw [if_neg c18] at H
                  exact absurd H (by simp)
              · rw [if_neg c17] at H
                exact absurd H (by simp)
            · rw [if_neg c16] at H
              exact absurd H (by simp)
          · rw [if_neg c15] at H
            have c15b0 : (a0_0 == 7) = false := beq_eq_false_iff_ne.mpr c15
            have c15b1 : (a0_0 != 7) = true := bne_iff_ne.mpr c15
            by_cases c21 : a0_0 = 8
            · rw [if_pos c21] at H
              have c21b0 : (a0_0 == 8) = true := beq_iff_eq.mpr c21
              have c21b1 : (a0_0 != 8) = false := bne_eq_false_iff_eq.mpr c21
              clear c21
              by_cases c22 : 0 < (l0_1.length : Int)
              · rw [if_pos c22] at H
                have c22b0 : decide (0 < (l0_1.length : Int)) = true := decide_eq_true c22
                have c22b1 : decide (0 < l0_1.length) = true := decide_eq_true (by omega)
                clear c22
                by_cases c23 : (rdOf ByteArray.empty l0_1 0).size + 1 ≤ 9223372036854775807
                · rw [if_pos c23] at H
                  have c23b0 := eq_true c23
                  have c23b1 : decide ((rdOf ByteArray.empty l0_1 0).size + 1 ≤ 9223372036854775807) = true := decide_eq_true c23
                  try have c23b2 : (9223372036854775807 < (rdOf ByteArray.empty l0_1 0).size + 1) = False := eq_false (Nat.not_lt.2 c23)
                  by_cases c24 : 1 < (l0_1.length : Int)
                  · rw [if_pos c24] at H
                    have c24b0 : decide (1 < (l0_1.length : Int)) = true := decide_eq_true c24
                    have c24b1 : decide (1 < l0_1.length) = true := decide_eq_true (by omega)
                    clear c24
                    by_cases c25 : ((rdOf ByteArray.empty l0_1 0) ++ (⟨#[32]⟩ : ByteArray)).size + (rdOf ByteArray.empty l0_1 1).size ≤ 9223372036854775807
                    · rw [if_pos c25] at H
                      have c25b0 := eq_true c25
                      have c25b1 : decide (((rdOf ByteArray.empty l0_1 0) ++ (⟨#[32]⟩ : ByteArray)).size + (rdOf ByteArray.empty l0_1 1).size ≤ 9223372036854775807) = true := decide_eq_true c25
                      try have c25b2 : (9223372036854775807 < ((rdOf ByteArray.empty l0_1 0) ++ (⟨#[32]⟩ : ByteArray)).size + (rdOf ByteArray.empty l0_1 1).size) = False := eq_false (Nat.not_lt.2 c25)
                      obtain rfl := Option.some.inj H
                      have hcz26_0 : wc.cell? ⟨gb184, 0, none⟩ = some (.int .i64 a0_0) := (blk_cell BK184.out 0).trans rfl
                      have hcz26_1 : wc.cell? ⟨gb184, 1, none⟩ = some (.slice A0_1 l0_1.length c0_1) := (blk_cell BK184.out 1).trans rfl
                      have hcz26_2 : wc.cell? ⟨gb184, 2, none⟩ = some (.bool a0_2) := (blk_cell BK184.out 2).trans rfl
                      have hfz26_0 := blk_frozen BK184.out 0
                      have hfz26_1 := blk_frozen BK184.out 1
                      have hfz26_2 := blk_frozen BK184.out 2
                      have p190 : 0 ≤ (0 : Int) := (by omega)
                      have q190 : 0 < (l0_1.length : Int) := of_decide_eq_true (by first | (with_reducible assumption) | assumption)
                      obtain ⟨ad190, e190, hx190_0⟩ := Kd.at_string HR0_1.out 0 p190 q190
                      cases e190
                      have qi190 : (0 < l0_1.length) = True := eq_true (by omega)
                      (try rw [show ((0 : Int)).toNat = 0 from rfl] at hx190_0)
                      (try rw [Addr.add_zero'] at hx190_0)
                      replace hx190_0 := (HB.out.cell (World.block_lt_of_cell? w _ hx190_0)).trans hx190_0
                      replace p190 := eq_true p190
                      replace q190 := eq_true q190
                      have p191 : 0 ≤ (1 : Int) := (by omega)
                      have q191 : 1 < (l0_1.length : Int) := of_decide_eq_true (by first | (with_reducible assumption) | assumption)
                      obtain ⟨ad191, e191, hx191_0⟩ := Kd.at_string HR0_1.out 1 p191 q191
                      obtain rfl : ad190 = ad191 := (by injection e191)
                      (try simp only [show (1 : Int).toNat = 1 from rfl, Nat.reduceMul, Nat.reduceEqDiff, Go.Addr.add, ↓reduceIte] at hx191_0)
                      have qi191 : (1 < l0_1.length) = True := eq_true (by omega)
                      (try rw [show ((1 : Int)).toNat = 1 from rfl] at hx191_0)
                      replace hx191_0 := (HB.out.cell (World.block_lt_of_cell? w _ hx191_0)).trans hx191_0
                      replace p191 := eq_true p191
                      replace q191 := eq_true q191
                      go_wp2
                      repeat (go_quiet (fail); try go_wp2)
                      go_ret
                      exact ⟨by first | rfl | (simp [errW_none, errW_some] <;> rfl) | (simp [*, errW_none, errW_some] <;> rfl), by repeat (first | (with_reducible first | exact HB.out | apply below_alloc | apply pw_below_drewN | apply below_drew1 | refine below_set ?_ GE184.out) | exact HB.out)⟩
                    · rw [if_neg c25] at H
                      exact absurd H (by simp)
                  · rw [if_neg c24] at H
                    exact absurd H (by simp)
                · rw [if_neg c23] at H
                  exact absurd H (by simp)
              · rw [if_neg c22] at H
                exact absurd H (by simp)
            · rw [if_neg c21] at H
              have c21b0 : (a0_0 == 8) = false := beq_eq_false_iff_ne.mpr c21
              have c21b1 : (a0_0 != 8) = true := bne_iff_ne.mpr c21
              by_cases c27 : 0 < (l0_1.length : Int)
              · rw [if_pos c27] at H
                have c27b0 : decide (0 < (l0_1.length : Int)) = true := decide_eq_true c27
                have c27b1 : decide (0 < l0_1.length) = true := decide_eq_true (by omega)
                clear c27
                obtain rfl := Option.some.inj H
                have hcz28_0 : wc.cell? ⟨gb184, 0, none⟩ = some (.int .i64 a0_0) := (blk_cell BK184.out 0).trans rfl
                have hcz28_1 : wc.cell? ⟨gb184, 1, none⟩ = some (.slice A0_1 l0_1.length c0_1) := (blk_cell BK184.out 1).trans rfl
                have hcz28_2 : wc.cell? ⟨gb184, 2, none⟩ = some (.bool a0_2) := (blk_cell BK184.out 2).trans rfl
                have hfz28_0 := blk_frozen BK184.out 0
                have hfz28_1 := blk_frozen BK184.out 1
                have hfz28_2 := blk_frozen BK184.out 2
                have p192 : 0 ≤ (0 : Int) := (by omega)
                have q192 : 0 < (l0_1.length : Int) := of_decide_eq_true (by first | (with_reducible assumption) | assumption)
                obtain ⟨ad192, e192, hx192_0⟩ := Kd.at_string HR0_1.out 0 p192 q192
                cases e192
                have qi192 : (0 < l0_1.length) = True := eq_true (by omega)
                (try rw [show ((0 : Int)).toNat = 0 from rfl] at hx192_0)
                (try rw [Addr.add_zero'] at hx192_0)
                replace hx192_0 := (HB.out.cell (World.block_lt_of_cell? w _ hx192_0)).trans hx192_0
                replace p192 := eq_true p192
                replace q192 := eq_true q192
                go_wp2
                repeat (go_quiet (fail); try go_wp2)
                go_ret
                exact ⟨by first | rfl | (simp [errW_none, errW_some] <;> rfl) | (simp [*, errW_none, errW_some] <;> rfl), by repeat (first | (with_reducible first | exact HB.out | apply below_alloc | apply pw_below_drewN | apply below_drew1 | refine below_set ?_ GE184.out) | exact HB.out)⟩
              · rw [if_neg c27] at H
                exact absurd H (by simp)

-- NOT PRINTED: function 5 (spec_FileOk)

/-! ### modfile_zzIndex: function 25 -/
def modfile_zzIndex.l0 : Nat → ByteArray → ByteArray → Int → Option (Int)
  | 0, _, _, _ => none
  | k + 1, x0, x1, x5 => if (wrap64 (x5 + (x1.size : Int))) ≤ (x0.size : Int) then (if 0 ≤ x5 then (if x5 ≤ (wrap64 (x5 + (x1.size : Int))) then (if (x0.extract (x5 : Int).toNat ((wrap64 (x5 + (x1.size : Int))) : Int).toNat).toList = x1.toList then (some x5) else (modfile_zzIndex.l0 k x0 x1 (wrap64 (x5 + 1)))) else (none)) else (none)) else (some (-1))
def modfile_zzIndex.f (k : Nat) (a0 : ByteArray) (a1 : ByteArray) : Option (Int) := modfile_zzIndex.l0 k a0 a1 0
theorem modfile_zzIndex.mono_l : ∀ k, (∀ y0 y1 y2, LeO (modfile_zzIndex.l0 k y0 y1 y2) (modfile_zzIndex.l0 (k + 1) y0 y1 y2))
  | 0 => fun _ _ _ r h => by simp [modfile_zzIndex.l0] at h
  | k + 1 => by
    have ih0 := modfile_zzIndex.mono_l k
    · intro y0 y1 y2
      unfold modfile_zzIndex.l0
      repeat' first
      | (with_reducible exact ih0 _ _ _)
      | (with_reducible exact LeO.refl _)
      | (with_reducible exact LeO.none _)
      | (with_reducible refine LeO.ite ?_ ?_)
      | (with_reducible refine LeO.bind ?_ (fun _ => ?_))
      | exact ih0 _ _ _
      | exact LeO.none _
      | refine LeO.ite ?_ ?_
      | refine LeO.bind ?_ (fun _ => ?_)
theorem modfile_zzIndex.mono : ∀ a0 a1 k, LeO (modfile_zzIndex.f k a0 a1) (modfile_zzIndex.f (k + 1) a0 a1) := by
  intro a0 a1 k
  have ih0 := modfile_zzIndex.mono_l k
  unfold modfile_zzIndex.f
  repeat' first
      | (with_reducible exact ih0 _ _ _)
      | (with_reducible exact LeO.refl _)
      | (with_reducible exact LeO.none _)
      | (with_reducible refine LeO.ite ?_ ?_)
      | (with_reducible refine LeO.bind ?_ (fun _ => ?_))
      | exact ih0 _ _ _
      | exact LeO.none _
      | refine LeO.ite ?_ ?_
      | refine LeO.bind ?_ (fun _ => ?_)
set_option maxHeartbeats 8000000 in
set_option maxRecDepth 100000 in
theorem modfile_zzIndex.calls (k : Nat) (a0 : ByteArray) (a1 : ByteArray) (r : Int) (w : World) (h : modfile_zzIndex.f k a0 a1 = some r) :
    Calls Tryd.prog 25 #[.string a0, .string a1] w fun e w' => e = .returned (.int .i64 r) ∧ Drawn0 w w' := by
  have H : (modfile_zzIndex.l0 k a0 a1 0) = some r := h
  clear h
  have H' := Aside0.mk H
  clear H
  go_enter Tryd.func25, Tryd.ntmps25
  go_wp2
  go_loopg [5] k (fun kq v5 w' => ∃ (x5_1 : Int), v5 = .int .i64 x5_1 ∧ Aside0 (modfile_zzIndex.l0 kq a0 a1 x5_1 = some r) ∧ Aside0 (kq ≤ k) ∧ Drawn0 w w')
  case atStart => exact ⟨(0), (by first | rfl | (simp; done) | (simp [*]; done)), H', ⟨Nat.le_refl _⟩, by repeat (first | exact Drawn0.refl _ | apply Drawn0.step)⟩
  case round =>
    clear H'
    try clear c2
    try clear p2
    obtain ⟨x5_1, rfl, HA, HK1, ⟨m1, rfl⟩⟩ := hrel
    cases gk with
    | zero => exact absurd HA.out (by simp [modfile_zzIndex.l0])
    | succ k1 =>
      have H := HA.out
      clear HA
      simp only [modfile_zzIndex.l0] at H
      by_cases c3 : (wrap64 (x5_1 + (a1.size : Int))) ≤ (a0.size : Int)
      · rw [if_pos c3] at H
        have c3b0 : decide ((wrap64 (x5_1 + (a1.size : Int))) ≤ (a0.size : Int)) = true := decide_eq_true c3
        clear c3
        by_cases c4 : 0 ≤ x5_1
        · rw [if_pos c4] at H
          have c4b0 := eq_true c4
          have c4b1 : decide (0 ≤ x5_1) = true := decide_eq_true c4
          clear c4
          by_cases c5 : x5_1 ≤ (wrap64 (x5_1 + (a1.size : Int)))
          · rw [if_pos c5] at H
            have c5b0 := eq_true c5
            have c5b1 : decide (x5_1 ≤ (wrap64 (x5_1 + (a1.size : Int)))) = true := decide_eq_true c5
            have c6b0 := eq_true (of_decide_eq_true (by first | (with_reducible assumption) | assumption) : (wrap64 (x5_1 + (a1.size : Int))) ≤ (a0.size : Int))
            by_cases c7 : (a0.extract (x5_1 : Int).toNat ((wrap64 (x5_1 + (a1.size : Int))) : Int).toNat).toList = a1.toList
            · rw [if_pos c7] at H
              have c7b0 : ((a0.extract (x5_1 : Int).toNat ((wrap64 (x5_1 + (a1.size : Int))) : Int).toNat).toList == a1.toList) = true := beq_iff_eq.mpr c7
              have c7b1 : ((a0.extract (x5_1 : Int).toNat ((wrap64 (x5_1 + (a1.size : Int))) : Int).toNat).toList != a1.toList) = false := bne_eq_false_iff_eq.mpr c7
              clear c7
              obtain rfl := Option.some.inj H
              go_wp2
              go_ret
              exact ⟨by first | rfl | (simp; done) | (simp [*]; done), by repeat (first | exact Drawn0.refl _ | apply Drawn0.step)⟩
            · rw [if_neg c7] at H
              have c7b0 : ((a0.extract (x5_1 : Int).toNat ((wrap64 (x5_1 + (a1.size : Int))) : Int).toNat).toList == a1.toList) = false := beq_eq_false_iff_ne.mpr c7
              have c7b1 : ((a0.extract (x5_1 : Int).toNat ((wrap64 (x5_1 + (a1.size : Int))) : Int).toNat).toList != a1.toList) = true := bne_iff_ne.mpr c7
              have H' := Aside0.mk H
              clear H
              go_wp2
              go_roundg k1
              case measure => have := HK1.out; omega
              case rel => exact ⟨(wrap64 (x5_1 + 1)), (by first | rfl | (simp; done) | (simp [*]; done)), H', ⟨by have := HK1.out; omega⟩, by repeat (first | exact Drawn0.refl _ | apply Drawn0.step)⟩
          · rw [if_neg c5] at H
            exact absurd H (by simp)
        · rw [if_neg c4] at H
          exact absurd H (by simp)
      · rw [if_neg c3] at H
        have c3b0 : decide ((wrap64 (x5_1 + (a1.size : Int))) ≤ (a0.size : Int)) = false := decide_eq_false c3
        clear c3
        obtain rfl := Option.some.inj H
        go_wp2
        go_ret
        exact ⟨by first | rfl | (simp; done) | (simp [*]; done), by repeat (first | exact Drawn0.refl _ | apply Drawn0.step)⟩

-- NOT PRINTED: function 55 (utf8_decodeRuneSlow)

-- NOT PRINTED: function 44 (utf8_DecodeRune)

end Go.Proofs.YtikgnlgmidbclaaDoor.PFnModulePath
