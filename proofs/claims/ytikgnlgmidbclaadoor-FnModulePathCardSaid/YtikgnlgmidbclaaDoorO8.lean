/- The walks of spec.Line and spec.blocked: each answers what its Lean function answers. Condition: that function answers. (Began as a text of print.sh.) -/
import Derived.Test.YtikgnlgmidbclaaDoorO0
namespace Go.Proofs.YtikgnlgmidbclaaDoor.PFnModulePath
open Go.RowKit Go.Proofs.YtikgnlgmidbclaaDoorW.PrintWords Go.Proofs.YtikgnlgmidbclaaDoorW.PrintLast Go.Proofs.YtikgnlgmidbclaaDoorW.PrintMore
attribute [local go_sem] max2_int min2_int max_two min_two max_three min_three max_four min_four   -- for this text's walks alone
set_option linter.unusedVariables false
set_option linter.unusedSimpArgs false

/-! ### spec_Line: function 15 -/
def spec_Line.j0 : Nat → List ByteArray → Int → Bool → Int → List ByteArray → Bool → Option (ByteArray)
  | 0, _, _, _, _, _, _ => none
  | k + 1, x3, x8, x19, x301000, x301001, x301002 => if x19 = true then (if x301002 = true then (if 0 < (x3.length : Int) then (if (rdOf ByteArray.empty x3 0).size + 1 ≤ 9223372036854775807 then (if 1 < (x3.length : Int) then (if ((rdOf ByteArray.empty x3 0) ++ (⟨#[32]⟩ : ByteArray)).size + (rdOf ByteArray.empty x3 1).size ≤ 9223372036854775807 then (if (((rdOf ByteArray.empty x3 0) ++ (⟨#[32]⟩ : ByteArray)) ++ (rdOf ByteArray.empty x3 1)).size + 12 ≤ 9223372036854775807 then (some ((((rdOf ByteArray.empty x3 0) ++ (⟨#[32]⟩ : ByteArray)) ++ (rdOf ByteArray.empty x3 1)) ++ (⟨#[32, 47, 47, 32, 105, 110, 100, 105, 114, 101, 99, 116]⟩ : ByteArray))) else (none)) else (none)) else (none)) else (none)) else (none)) else (if 0 < (x3.length : Int) then (if (rdOf ByteArray.empty x3 0).size + 1 ≤ 9223372036854775807 then (if 1 < (x3.length : Int) then (if ((rdOf ByteArray.empty x3 0) ++ (⟨#[32]⟩ : ByteArray)).size + (rdOf ByteArray.empty x3 1).size ≤ 9223372036854775807 then (some (((rdOf ByteArray.empty x3 0) ++ (⟨#[32]⟩ : ByteArray)) ++ (rdOf ByteArray.empty x3 1))) else (none)) else (none)) else (none)) else (none))) else (if x8 = 7 then (if 0 < (x3.length : Int) then (if 1 < (x3.length : Int) then (if (rdOf ByteArray.empty x3 1).toList = ([] : List UInt8) then (if 2 < (x3.length : Int) then (if 4 + (rdOf ByteArray.empty x3 2).size ≤ 9223372036854775807 then (if (rdOf ByteArray.empty x3 0).size + ((⟨#[32, 61, 62, 32]⟩ : ByteArray) ++ (rdOf ByteArray.empty x3 2)).size ≤ 9223372036854775807 then (if 3 < (x3.length : Int) then (if (rdOf ByteArray.empty x3 3).toList = ([] : List UInt8) then (some ((rdOf ByteArray.empty x3 0) ++ ((⟨#[32, 61, 62, 32]⟩ : ByteArray) ++ (rdOf ByteArray.empty x3 2)))) else (if 1 + (rdOf ByteArray.empty x3 3).size ≤ 9223372036854775807 then (if ((rdOf ByteArray.empty x3 0) ++ ((⟨#[32, 61, 62, 32]⟩ : ByteArray) ++ (rdOf ByteArray.empty x3 2))).size + ((⟨#[32]⟩ : ByteArray) ++ (rdOf ByteArray.empty x3 3)).size ≤ 9223372036854775807 then (some (((rdOf ByteArray.empty x3 0) ++ ((⟨#[32, 61, 62, 32]⟩ : ByteArray) ++ (rdOf ByteArray.empty x3 2))) ++ ((⟨#[32]⟩ : ByteArray) ++ (rdOf ByteArray.empty x3 3)))) else (none)) else (none))) else (none)) else (none)) else (none)) else (none)) else (if 1 + (rdOf ByteArray.empty x3 1).size ≤ 9223372036854775807 then (if (rdOf ByteArray.empty x3 0).size + ((⟨#[32]⟩ : ByteArray) ++ (rdOf ByteArray.empty x3 1)).size ≤ 9223372036854775807 then (if 2 < (x3.length : Int) then (if 4 + (rdOf ByteArray.empty x3 2).size ≤ 9223372036854775807 then (if ((rdOf ByteArray.empty x3 0) ++ ((⟨#[32]⟩ : ByteArray) ++ (rdOf ByteArray.empty x3 1))).size + ((⟨#[32, 61, 62, 32]⟩ : ByteArray) ++ (rdOf ByteArray.empty x3 2)).size ≤ 9223372036854775807 then (if 3 < (x3.length : Int) then (if (rdOf ByteArray.empty x3 3).toList = ([] : List UInt8) then (some (((rdOf ByteArray.empty x3 0) ++ ((⟨#[32]⟩ : ByteArray) ++ (rdOf ByteArray.empty x3 1))) ++ ((⟨#[32, 61, 62, 32]⟩ : ByteArray) ++ (rdOf ByteArray.empty x3 2)))) else (if 1 + (rdOf ByteArray.empty x3 3).size ≤ 9223372036854775807 then (if (((rdOf ByteArray.empty x3 0) ++ ((⟨#[32]⟩ : ByteArray) ++ (rdOf ByteArray.empty x3 1))) ++ ((⟨#[32, 61, 62, 32]⟩ : ByteArray) ++ (rdOf ByteArray.empty x3 2))).size + ((⟨#[32]⟩ : ByteArray) ++ (rdOf ByteArray.empty x3 3)).size ≤ 9223372036854775807 then (some ((((rdOf ByteArray.empty x3 0) ++ ((⟨#[32]⟩ : ByteArray) ++ (rdOf ByteArray.empty x3 1))) ++ ((⟨#[32, 61, 62, 32]⟩ : ByteArray) ++ (rdOf ByteArray.empty x3 2))) ++ ((⟨#[32]⟩ : ByteArray) ++ (rdOf ByteArray.empty x3 3)))) else (none)) else (none))) else (none)) else (none)) else (none)) else (none)) else (none)) else (none))) else (none)) else (none)) else (if x8 = 8 then (if 0 < (x3.length : Int) then (if 1 < (x3.length : Int) then (if (rdOf ByteArray.empty x3 0).toList = (rdOf ByteArray.empty x3 1).toList then (some (rdOf ByteArray.empty x3 0)) else (if 1 + (rdOf ByteArray.empty x3 0).size ≤ 9223372036854775807 then (if ((⟨#[91]⟩ : ByteArray) ++ (rdOf ByteArray.empty x3 0)).size + 2 ≤ 9223372036854775807 then (if (((⟨#[91]⟩ : ByteArray) ++ (rdOf ByteArray.empty x3 0)) ++ (⟨#[44, 32]⟩ : ByteArray)).size + (rdOf ByteArray.empty x3 1).size ≤ 9223372036854775807 then (if ((((⟨#[91]⟩ : ByteArray) ++ (rdOf ByteArray.empty x3 0)) ++ (⟨#[44, 32]⟩ : ByteArray)) ++ (rdOf ByteArray.empty x3 1)).size + 1 ≤ 9223372036854775807 then (some (((((⟨#[91]⟩ : ByteArray) ++ (rdOf ByteArray.empty x3 0)) ++ (⟨#[44, 32]⟩ : ByteArray)) ++ (rdOf ByteArray.empty x3 1)) ++ (⟨#[93]⟩ : ByteArray))) else (none)) else (none)) else (none)) else (none))) else (none)) else (none)) else (if 0 < (x3.length : Int) then (some (rdOf ByteArray.empty x3 0)) else (none))))
def spec_Line.f (k : Nat) (a0_0 : Int) (l0_1 : List ByteArray) (a0_2 : Bool) : Option (ByteArray) := if a0_0 = 4 then (if 0 < (l0_1.length : Int) then (if (rdOf ByteArray.empty l0_1 0).size + 1 ≤ 9223372036854775807 then (if 1 < (l0_1.length : Int) then (if ((rdOf ByteArray.empty l0_1 0) ++ (⟨#[61]⟩ : ByteArray)).size + (rdOf ByteArray.empty l0_1 1).size ≤ 9223372036854775807 then (some (((rdOf ByteArray.empty l0_1 0) ++ (⟨#[61]⟩ : ByteArray)) ++ (rdOf ByteArray.empty l0_1 1))) else (none)) else (none)) else (none)) else (none)) else (if a0_0 = 5 then (spec_Line.j0 k l0_1 a0_0 (a0_0 == 5) a0_0 l0_1 a0_2) else (spec_Line.j0 k l0_1 a0_0 (a0_0 == 6) a0_0 l0_1 a0_2))
theorem spec_Line.mono_l : ∀ k, (∀ y0 y1 y2 y3 y4 y5, LeO (spec_Line.j0 k y0 y1 y2 y3 y4 y5) (spec_Line.j0 (k + 1) y0 y1 y2 y3 y4 y5))
  | 0 => fun _ _ _ _ _ _ r h => by simp [spec_Line.j0] at h
  | k + 1 => by
    have ih0 := spec_Line.mono_l k
    · intro y0 y1 y2 y3 y4 y5
      unfold spec_Line.j0
      repeat' first
      | (with_reducible exact ih0 _ _ _ _ _ _)
      | (with_reducible exact LeO.refl _)
      | (with_reducible exact LeO.none _)
      | (with_reducible refine LeO.ite ?_ ?_)
      | (with_reducible refine LeO.bind ?_ (fun _ => ?_))
      | exact ih0 _ _ _ _ _ _
      | exact LeO.none _
      | refine LeO.ite ?_ ?_
      | refine LeO.bind ?_ (fun _ => ?_)
theorem spec_Line.mono : ∀ a0 a1 a2 k, LeO (spec_Line.f k a0 a1 a2) (spec_Line.f (k + 1) a0 a1 a2) := by
  intro a0 a1 a2 k
  have ih0 := spec_Line.mono_l k
  unfold spec_Line.f
  repeat' first
      | (with_reducible exact ih0 _ _ _ _ _ _)
      | (with_reducible exact LeO.refl _)
      | (with_reducible exact LeO.none _)
      | (with_reducible refine LeO.ite ?_ ?_)
      | (with_reducible refine LeO.bind ?_ (fun _ => ?_))
      | exact ih0 _ _ _ _ _ _
      | exact LeO.none _
      | refine LeO.ite ?_ ?_
      | refine LeO.bind ?_ (fun _ => ?_)
set_option maxHeartbeats 8000000 in
set_option maxRecDepth 100000 in
theorem spec_Line.calls (k : Nat) (a0_0 : Int) (A0_1 : Option Addr) (c0_1 : Nat) (l0_1 : List ByteArray) (a0_2 : Bool) (r : ByteArray) (w : World) (hr0_1 : Kd.C Kd.string w A0_1 l0_1.length l0_1) (hc0_1 : l0_1.length ≤ c0_1) (h : spec_Line.f k a0_0 l0_1 a0_2 = some r) :
    Calls Tryd.prog 15 #[.agg #[.int .i64 a0_0, .slice A0_1 l0_1.length c0_1, .bool a0_2]] w fun e w' => e = .returned (.string r) ∧ Below w.heap.size w w' := by
  have hu29 := Tryd.underlying29
  have HR0_1 := Aside0.mk hr0_1
  have HC0_1 := Aside0.mk hc0_1
  clear hr0_1 hc0_1
  have HB := Aside0.mk (Below.refl w.heap.size w)
  have H : (if a0_0 = 4 then (if 0 < (l0_1.length : Int) then (if (rdOf ByteArray.empty l0_1 0).size + 1 ≤ 9223372036854775807 then (if 1 < (l0_1.length : Int) then (if ((rdOf ByteArray.empty l0_1 0) ++ (⟨#[61]⟩ : ByteArray)).size + (rdOf ByteArray.empty l0_1 1).size ≤ 9223372036854775807 then (some (((rdOf ByteArray.empty l0_1 0) ++ (⟨#[61]⟩ : ByteArray)) ++ (rdOf ByteArray.empty l0_1 1))) else (none)) else (none)) else (none)) else (none)) else (if a0_0 = 5 then (spec_Line.j0 k l0_1 a0_0 (a0_0 == 5) a0_0 l0_1 a0_2) else (spec_Line.j0 k l0_1 a0_0 (a0_0 == 6) a0_0 l0_1 a0_2))) = some r := h
  clear h
  by_cases c2 : a0_0 = 4
  · rw [if_pos c2] at H
    have c2b0 : (a0_0 == 4) = true := beq_iff_eq.mpr c2
    have c2b1 : (a0_0 != 4) = false := bne_eq_false_iff_eq.mpr c2
    clear c2
    by_cases c3 : 0 < (l0_1.length : Int)
    · rw [if_pos c3] at H
      have c3b0 : decide (0 < (l0_1.length : Int)) = true := decide_eq_true c3
      have c3b1 : decide (0 < l0_1.length) = true := decide_eq_true (by omega)
      clear c3
      by_cases c4 : (rdOf ByteArray.empty l0_1 0).size + 1 ≤ 9223372036854775807
      · rw [if_pos c4] at H
        have c4b0 := eq_true c4
        have c4b1 : decide ((rdOf ByteArray.empty l0_1 0).size + 1 ≤ 9223372036854775807) = true := decide_eq_true c4
        try have c4b2 : (9223372036854775807 < (rdOf ByteArray.empty l0_1 0).size + 1) = False := eq_false (Nat.not_lt.2 c4)
        by_cases c5 : 1 < (l0_1.length : Int)
        · rw [if_pos c5] at H
          have c5b0 : decide (1 < (l0_1.length : Int)) = true := decide_eq_true c5
          have c5b1 : decide (1 < l0_1.length) = true := decide_eq_true (by omega)
          clear c5
          by_cases c6 : ((rdOf ByteArray.empty l0_1 0) ++ (⟨#[61]⟩ : ByteArray)).size + (rdOf ByteArray.empty l0_1 1).size ≤ 9223372036854775807
          · rw [if_pos c6] at H
            have c6b0 := eq_true c6
            have c6b1 : decide (((rdOf ByteArray.empty l0_1 0) ++ (⟨#[61]⟩ : ByteArray)).size + (rdOf ByteArray.empty l0_1 1).size ≤ 9223372036854775807) = true := decide_eq_true c6
            try have c6b2 : (9223372036854775807 < ((rdOf ByteArray.empty l0_1 0) ++ (⟨#[61]⟩ : ByteArray)).size + (rdOf ByteArray.empty l0_1 1).size) = False := eq_false (Nat.not_lt.2 c6)
            obtain rfl := Option.some.inj H
            go_enter Tryd.func15, Tryd.ntmps15
            go_wp2_with (first | ((with_reducible refine gate_dst (N := 1) rfl ?_); refine box_event ?hg (N := 1) ?hd (cs := #[.int .i64 a0_0, .slice A0_1 l0_1.length c0_1, .bool a0_2]) (t := 29) ?hr ?_; (case hd => rfl); (case hg => rfl); (case hr => first | (go_simp; done) | (go_simp; rfl)); intro gb300 hg w7 hbox hb; have n0_ := Aside0.mk (below_step (by repeat (first | (with_reducible first | exact HB.out | apply below_alloc | apply pw_below_drewN | apply below_drew1) | exact HB.out)) hb); have n1_ := Aside0.mk (hbox); have n2_ := Aside0.mk ((by rw [hg]; exact (below_size (by repeat (first | (with_reducible first | exact HB.out | apply below_alloc | apply pw_below_drewN | apply below_drew1) | exact HB.out))) : w.heap.size ≤ gb300)); have n3_ := Aside0.mk ((by rw [hg]; exact (below_size (by repeat (first | (with_reducible first | exact HB.out | apply below_alloc | apply pw_below_drewN | apply below_drew1) | exact HB.out))) : w.heap.size ≤ gb300)); clear HB; have HB := n0_; have BK300 := n1_; have GW300 := n2_; have GE300 := n3_; clear n0_ n1_ n2_ n3_; clear hb hbox hg; have hcz8_0 : w7.cell? ⟨gb300, 0, none⟩ = some (.int .i64 a0_0) := (blk_cell BK300.out 0).trans rfl; have hcz8_1 : w7.cell? ⟨gb300, 1, none⟩ = some (.slice A0_1 l0_1.length c0_1) := (blk_cell BK300.out 1).trans rfl; have hcz8_2 : w7.cell? ⟨gb300, 2, none⟩ = some (.bool a0_2) := (blk_cell BK300.out 2).trans rfl; have hfz8_0 := blk_frozen BK300.out 0; have hfz8_1 := blk_frozen BK300.out 1; have hfz8_2 := blk_frozen BK300.out 2; have p301 : 0 ≤ (0 : Int) := (by omega); have q301 : 0 < (l0_1.length : Int) := of_decide_eq_true (by first | (with_reducible assumption) | assumption); obtain ⟨ad301, e301, hx301_0⟩ := Kd.at_string HR0_1.out 0 p301 q301; cases e301; have qi301 : (0 < l0_1.length) = True := eq_true (by omega); (try rw [show ((0 : Int)).toNat = 0 from rfl] at hx301_0); (try rw [Addr.add_zero'] at hx301_0); replace hx301_0 := (HB.out.cell (World.block_lt_of_cell? w _ hx301_0)).trans hx301_0; replace p301 := eq_true p301; replace q301 := eq_true q301; have p302 : 0 ≤ (1 : Int) := (by omega); have q302 : 1 < (l0_1.length : Int) := of_decide_eq_true (by first | (with_reducible assumption) | assumption); obtain ⟨ad302, e302, hx302_0⟩ := Kd.at_string HR0_1.out 1 p302 q302; obtain rfl : ad301 = ad302 := (by injection e302); (try simp only [show (1 : Int).toNat = 1 from rfl, Nat.reduceMul, Nat.reduceEqDiff, Go.Addr.add, ↓reduceIte] at hx302_0); have qi302 : (1 < l0_1.length) = True := eq_true (by omega); (try rw [show ((1 : Int)).toNat = 1 from rfl] at hx302_0); replace hx302_0 := (HB.out.cell (World.block_lt_of_cell? w _ hx302_0)).trans hx302_0; replace p302 := eq_true p302; replace q302 := eq_true q302))
            repeat (go_quiet (first | ((with_reducible refine gate_dst (N := 1) rfl ?_); refine box_event ?hg (N := 1) ?hd (cs := #[.int .i64 a0_0, .slice A0_1 l0_1.length c0_1, .bool a0_2]) (t := 29) ?hr ?_; (case hd => rfl); (case hg => rfl); (case hr => first | (go_simp; done) | (go_simp; rfl)); intro gb300 hg w7 hbox hb; have n0_ := Aside0.mk (below_step (by repeat (first | (with_reducible first | exact HB.out | apply below_alloc | apply pw_below_drewN | apply below_drew1) | exact HB.out)) hb); have n1_ := Aside0.mk (hbox); have n2_ := Aside0.mk ((by rw [hg]; exact (below_size (by repeat (first | (with_reducible first | exact HB.out | apply below_alloc | apply pw_below_drewN | apply below_drew1) | exact HB.out))) : w.heap.size ≤ gb300)); have n3_ := Aside0.mk ((by rw [hg]; exact (below_size (by repeat (first | (with_reducible first | exact HB.out | apply below_alloc | apply pw_below_drewN | apply below_drew1) | exact HB.out))) : w.heap.size ≤ gb300)); clear HB; have HB := n0_; have BK300 := n1_; have GW300 := n2_; have GE300 := n3_; clear n0_ n1_ n2_ n3_; clear hb hbox hg; have hcz8_0 : w7.cell? ⟨gb300, 0, none⟩ = some (.int .i64 a0_0) := (blk_cell BK300.out 0).trans rfl; have hcz8_1 : w7.cell? ⟨gb300, 1, none⟩ = some (.slice A0_1 l0_1.length c0_1) := (blk_cell BK300.out 1).trans rfl; have hcz8_2 : w7.cell? ⟨gb300, 2, none⟩ = some (.bool a0_2) := (blk_cell BK300.out 2).trans rfl; have hfz8_0 := blk_frozen BK300.out 0; have hfz8_1 := blk_frozen BK300.out 1; have hfz8_2 := blk_frozen BK300.out 2; have p301 : 0 ≤ (0 : Int) := (by omega); have q301 : 0 < (l0_1.length : Int) := of_decide_eq_true (by first | (with_reducible assumption) | assumption); obtain ⟨ad301, e301, hx301_0⟩ := Kd.at_string HR0_1.out 0 p301 q301; cases e301; have qi301 : (0 < l0_1.length) = True := eq_true (by omega); (try rw [show ((0 : Int)).toNat = 0 from rfl] at hx301_0); (try rw [Addr.add_zero'] at hx301_0); replace hx301_0 := (HB.out.cell (World.block_lt_of_cell? w _ hx301_0)).trans hx301_0; replace p301 := eq_true p301; replace q301 := eq_true q301; have p302 : 0 ≤ (1 : Int) := (by omega); have q302 : 1 < (l0_1.length : Int) := of_decide_eq_true (by first | (with_reducible assumption) | assumption); obtain ⟨ad302, e302, hx302_0⟩ := Kd.at_string HR0_1.out 1 p302 q302; obtain rfl : ad301 = ad302 := (by injection e302); (try simp only [show (1 : Int).toNat = 1 from rfl, Nat.reduceMul, Nat.reduceEqDiff, Go.Addr.add, ↓reduceIte] at hx302_0); have qi302 : (1 < l0_1.length) = True := eq_true (by omega); (try rw [show ((1 : Int)).toNat = 1 from rfl] at hx302_0); replace hx302_0 := (HB.out.cell (World.block_lt_of_cell? w _ hx302_0)).trans hx302_0; replace p302 := eq_true p302; replace q302 := eq_true q302)); try go_wp2_with (first | ((with_reducible refine gate_dst (N := 1) rfl ?_); refine box_event ?hg (N := 1) ?hd (cs := #[.int .i64 a0_0, .slice A0_1 l0_1.length c0_1, .bool a0_2]) (t := 29) ?hr ?_; (case hd => rfl); (case hg => rfl); (case hr => first | (go_simp; done) | (go_simp; rfl)); intro gb300 hg w7 hbox hb; have n0_ := Aside0.mk (below_step (by repeat (first | (with_reducible first | exact HB.out | apply below_alloc | apply pw_below_drewN | apply below_drew1) | exact HB.out)) hb); have n1_ := Aside0.mk (hbox); have n2_ := Aside0.mk ((by rw [hg]; exact (below_size (by repeat (first | (with_reducible first | exact HB.out | apply below_alloc | apply pw_below_drewN | apply below_drew1) | exact HB.out))) : w.heap.size ≤ gb300)); have n3_ := Aside0.mk ((by rw [hg]; exact (below_size (by repeat (first | (with_reducible first | exact HB.out | apply below_alloc | apply pw_below_drewN | apply below_drew1) | exact HB.out))) : w.heap.size ≤ gb300)); clear HB; have HB := n0_; have BK300 := n1_; have GW300 := n2_; have GE300 := n3_; clear n0_ n1_ n2_ n3_; clear hb hbox hg; have hcz8_0 : w7.cell? ⟨gb300, 0, none⟩ = some (.int .i64 a0_0) := (blk_cell BK300.out 0).trans rfl; have hcz8_1 : w7.cell? ⟨gb300, 1, none⟩ = some (.slice A0_1 l0_1.length c0_1) := (blk_cell BK300.out 1).trans rfl; have hcz8_2 : w7.cell? ⟨gb300, 2, none⟩ = some (.bool a0_2) := (blk_cell BK300.out 2).trans rfl; have hfz8_0 := blk_frozen BK300.out 0; have hfz8_1 := blk_frozen BK300.out 1; have hfz8_2 := blk_frozen BK300.out 2; have p301 : 0 ≤ (0 : Int) := (by omega); have q301 : 0 < (l0_1.length : Int) := of_decide_eq_true (by first | (with_reducible assumption) | assumption); obtain ⟨ad301, e301, hx301_0⟩ := Kd.at_string HR0_1.out 0 p301 q301; cases e301; have qi301 : (0 < l0_1.length) = True := eq_true (by omega); (try rw [show ((0 : Int)).toNat = 0 from rfl] at hx301_0); (try rw [Addr.add_zero'] at hx301_0); replace hx301_0 := (HB.out.cell (World.block_lt_of_cell? w _ hx301_0)).trans hx301_0; replace p301 := eq_true p301; replace q301 := eq_true q301; have p302 : 0 ≤ (1 : Int) := (by omega); have q302 : 1 < (l0_1.length : Int) := of_decide_eq_true (by first | (with_reducible assumption) | assumption); obtain ⟨ad302, e302, hx302_0⟩ := Kd.at_string HR0_1.out 1 p302 q302; obtain rfl : ad301 = ad302 := (by injection e302); (try simp only [show (1 : Int).toNat = 1 from rfl, Nat.reduceMul, Nat.reduceEqDiff, Go.Addr.add, ↓reduceIte] at hx302_0); have qi302 : (1 < l0_1.length) = True := eq_true (by omega); (try rw [show ((1 : Int)).toNat = 1 from rfl] at hx302_0); replace hx302_0 := (HB.out.cell (World.block_lt_of_cell? w _ hx302_0)).trans hx302_0; replace p302 := eq_true p302; replace q302 := eq_true q302)))
            go_ret
            exact ⟨by first | rfl | (simp [errW_none, errW_some] <;> rfl) | (simp [*, errW_none, errW_some] <;> rfl), by repeat (first | (with_reducible first | exact HB.out | apply below_alloc | apply pw_below_drewN | apply below_drew1 | refine below_set ?_ GE300.out) | exact HB.out)⟩
          · rw [if_neg c6] at H
            exact absurd H (by simp)
        · rw [if_neg c5] at H
          exact absurd H (by simp)
      · rw [if_neg c4] at H
        exact absurd H (by simp)
    · rw [if_neg c3] at H
      exact absurd H (by simp)
  · rw [if_neg c2] at H
    have c2b0 : (a0_0 == 4) = false := beq_eq_false_iff_ne.mpr c2
    have c2b1 : (a0_0 != 4) = true := bne_iff_ne.mpr c2
    have HC9 := Aside0.mk H
    clear H
    go_enter Tryd.func15, Tryd.ntmps15
    go_upto_if 19 with (first | ((with_reducible refine gate_dst (N := 1) rfl ?_); refine box_event ?hg (N := 1) ?hd (cs := #[.int .i64 a0_0, .slice A0_1 l0_1.length c0_1, .bool a0_2]) (t := 29) ?hr ?_; (case hd => rfl); (case hg => rfl); (case hr => first | (go_simp; done) | (go_simp; rfl)); intro gb300 hg w10 hbox hb; have n0_ := Aside0.mk (below_step (by repeat (first | (with_reducible first | exact HB.out | apply below_alloc | apply pw_below_drewN | apply below_drew1) | exact HB.out)) hb); have n1_ := Aside0.mk (hbox); have n2_ := Aside0.mk ((by rw [hg]; exact (below_size (by repeat (first | (with_reducible first | exact HB.out | apply below_alloc | apply pw_below_drewN | apply below_drew1) | exact HB.out))) : w.heap.size ≤ gb300)); have n3_ := Aside0.mk ((by rw [hg]; exact (below_size (by repeat (first | (with_reducible first | exact HB.out | apply below_alloc | apply pw_below_drewN | apply below_drew1) | exact HB.out))) : w.heap.size ≤ gb300)); clear HB; have HB := n0_; have BK300 := n1_; have GW300 := n2_; have GE300 := n3_; clear n0_ n1_ n2_ n3_; clear hb hbox hg; have hcz11_0 : w10.cell? ⟨gb300, 0, none⟩ = some (.int .i64 a0_0) := (blk_cell BK300.out 0).trans rfl; have hcz11_1 : w10.cell? ⟨gb300, 1, none⟩ = some (.slice A0_1 l0_1.length c0_1) := (blk_cell BK300.out 1).trans rfl; have hcz11_2 : w10.cell? ⟨gb300, 2, none⟩ = some (.bool a0_2) := (blk_cell BK300.out 2).trans rfl; have hfz11_0 := blk_frozen BK300.out 0; have hfz11_1 := blk_frozen BK300.out 1; have hfz11_2 := blk_frozen BK300.out 2))
    repeat (go_quiet (first | ((with_reducible refine gate_dst (N := 1) rfl ?_); refine box_event ?hg (N := 1) ?hd (cs := #[.int .i64 a0_0, .slice A0_1 l0_1.length c0_1, .bool a0_2]) (t := 29) ?hr ?_; (case hd => rfl); (case hg => rfl); (case hr => first | (go_simp; done) | (go_simp; rfl)); intro gb300 hg w10 hbox hb; have n0_ := Aside0.mk (below_step (by repeat (first | (with_reducible first | exact HB.out | apply below_alloc | apply pw_below_drewN | apply below_drew1) | exact HB.out)) hb); have n1_ := Aside0.mk (hbox); have n2_ := Aside0.mk ((by rw [hg]; exact (below_size (by repeat (first | (with_reducible first | exact HB.out | apply below_alloc | apply pw_below_drewN | apply below_drew1) | exact HB.out))) : w.heap.size ≤ gb300)); have n3_ := Aside0.mk ((by rw [hg]; exact (below_size (by repeat (first | (with_reducible first | exact HB.out | apply below_alloc | apply pw_below_drewN | apply below_drew1) | exact HB.out))) : w.heap.size ≤ gb300)); clear HB; have HB := n0_; have BK300 := n1_; have GW300 := n2_; have GE300 := n3_; clear n0_ n1_ n2_ n3_; clear hb hbox hg; have hcz11_0 : w10.cell? ⟨gb300, 0, none⟩ = some (.int .i64 a0_0) := (blk_cell BK300.out 0).trans rfl; have hcz11_1 : w10.cell? ⟨gb300, 1, none⟩ = some (.slice A0_1 l0_1.length c0_1) := (blk_cell BK300.out 1).trans rfl; have hcz11_2 : w10.cell? ⟨gb300, 2, none⟩ = some (.bool a0_2) := (blk_cell BK300.out 2).trans rfl; have hfz11_0 := blk_frozen BK300.out 0; have hfz11_1 := blk_frozen BK300.out 1; have hfz11_2 := blk_frozen BK300.out 2)); go_upto_if 19 with (first | ((with_reducible refine gate_dst (N := 1) rfl ?_); refine box_event ?hg (N := 1) ?hd (cs := #[.int .i64 a0_0, .slice A0_1 l0_1.length c0_1, .bool a0_2]) (t := 29) ?hr ?_; (case hd => rfl); (case hg => rfl); (case hr => first | (go_simp; done) | (go_simp; rfl)); intro gb300 hg w10 hbox hb; have n0_ := Aside0.mk (below_step (by repeat (first | (with_reducible first | exact HB.out | apply below_alloc | apply pw_below_drewN | apply below_drew1) | exact HB.out)) hb); have n1_ := Aside0.mk (hbox); have n2_ := Aside0.mk ((by rw [hg]; exact (below_size (by repeat (first | (with_reducible first | exact HB.out | apply below_alloc | apply pw_below_drewN | apply below_drew1) | exact HB.out))) : w.heap.size ≤ gb300)); have n3_ := Aside0.mk ((by rw [hg]; exact (below_size (by repeat (first | (with_reducible first | exact HB.out | apply below_alloc | apply pw_below_drewN | apply below_drew1) | exact HB.out))) : w.heap.size ≤ gb300)); clear HB; have HB := n0_; have BK300 := n1_; have GW300 := n2_; have GE300 := n3_; clear n0_ n1_ n2_ n3_; clear hb hbox hg; have hcz11_0 : w10.cell? ⟨gb300, 0, none⟩ = some (.int .i64 a0_0) := (blk_cell BK300.out 0).trans rfl; have hcz11_1 : w10.cell? ⟨gb300, 1, none⟩ = some (.slice A0_1 l0_1.length c0_1) := (blk_cell BK300.out 1).trans rfl; have hcz11_2 : w10.cell? ⟨gb300, 2, none⟩ = some (.bool a0_2) := (blk_cell BK300.out 2).trans rfl; have hfz11_0 := blk_frozen BK300.out 0; have hfz11_1 := blk_frozen BK300.out 1; have hfz11_2 := blk_frozen BK300.out 2)))
    (try simp only [Act.put, List.setIfInBounds_toArray, List.set_cons_zero, List.set_cons_succ])
    go_cut [19] (fun v19 wc => ∃ (kq : Nat) (x19_8 : Bool), v19 = .bool x19_8 ∧ Aside0 (spec_Line.j0 kq l0_1 a0_0 x19_8 a0_0 l0_1 a0_2 = some r) ∧ Aside0 (kq ≤ k) ∧ Aside0 (wc.heap[gb300]? = some (.cells #[.int .i64 a0_0, (.slice A0_1 l0_1.length c0_1), .bool a0_2] 29 (0, 0))) ∧ Aside0 (Below w.heap.size w wc))
    case first =>
      have H := HC9.out
      clear HC9
      by_cases c12 : a0_0 = 5
      · rw [if_pos c12] at H
        have c12b0 : (a0_0 == 5) = true := beq_iff_eq.mpr c12
        have c12b1 : (a0_0 != 5) = false := bne_eq_false_iff_eq.mpr c12
        clear c12
        (first | rw [c12b0] | (simp only [i64_w, i32_w]; rw [c12b0]) | skip)
        have H' := Aside0.mk H
        clear H
        go_wp2
        repeat (go_quiet (fail); try go_wp2)
        go_meet
        case rel => exact ⟨_, ((a0_0 == 5)), (by first | rfl | (simp; done) | (simp [*]; done)), H', ⟨by first | omega | exact Nat.le_refl _⟩, ⟨by (with_reducible repeat (first | refine blk_drewN ?_ _ | refine blk_drew ?_ | refine blk_alloc ?_ _)); exact BK300.out⟩, ⟨by repeat (first | (with_reducible first | exact HB.out | apply below_alloc | apply pw_below_drewN | apply below_drew1 | refine below_set ?_ GE300.out) | exact HB.out)⟩⟩
      · rw [if_neg c12] at H
        have c12b0 : (a0_0 == 5) = false := beq_eq_false_iff_ne.mpr c12
        have c12b1 : (a0_0 != 5) = true := bne_iff_ne.mpr c12
        (first | rw [c12b0] | (simp only [i64_w, i32_w]; rw [c12b0]) | skip)
        have H' := Aside0.mk H
        clear H
        go_wp2
        repeat (go_quiet (fail); try go_wp2)
        go_meet
        case rel => exact ⟨_, ((a0_0 == 6)), (by first | rfl | (simp; done) | (simp [*]; done)), H', ⟨by first | omega | exact Nat.le_refl _⟩, ⟨by (with_reducible repeat (first | refine blk_drewN ?_ _ | refine blk_drew ?_ | refine blk_alloc ?_ _)); exact BK300.out⟩, ⟨by repeat (first | (with_reducible first | exact HB.out | apply below_alloc | apply pw_below_drewN | apply below_drew1 | refine below_set ?_ GE300.out) | exact HB.out)⟩⟩
    case rest =>
      clear HC9
      try clear c1
      try clear c2
      try clear c2b0
      try clear c2b1
      try clear p2
      try clear c3
      try clear c3b0
      try clear c3b1
      try clear p3
      try clear q3
      try clear hx3
      try clear qi3
      try clear c4
      try clear c4b0
      try clear c4b1
      try clear c4b2
      try clear c5
      try clear c5b0
      try clear c5b1
      try clear c6
      try clear c6b0
      try clear c6b1
      try clear c6b2
      try clear c12
      try clear c12b0
      try clear c12b1
      try clear hcz11_0
      try clear hcz11_1
      try clear hcz11_2
      try clear hcz8_0
      try clear hcz8_1
      try clear hcz8_2
      try clear hfz11_0
      try clear hfz11_1
      try clear hfz11_2
      try clear hfz8_0
      try clear hfz8_1
      try clear hfz8_2
      try clear hx301_0
      try clear hx302_0
      try clear p301
      try clear p302
      try clear q301
      try clear q302
      obtain ⟨kq, x19_8, rfl, HA, HJ8, BK300, HB⟩ := hcut
      cases kq with
      | zero => exact absurd HA.out (by simp [spec_Line.j0])
      | succ kj8 =>
        have H := HA.out
        clear HA
        simp only [spec_Line.j0] at H
        by_cases c13 : x19_8 = true
        · subst c13
          have H1 : (if a0_2 = true then (if 0 < (l0_1.length : Int) then (if (rdOf ByteArray.empty l0_1 0).size + 1 ≤ 9223372036854775807 then (if 1 < (l0_1.length : Int) then (if ((rdOf ByteArray.empty l0_1 0) ++ (⟨#[32]⟩ : ByteArray)).size + (rdOf ByteArray.empty l0_1 1).size ≤ 9223372036854775807 then (if (((rdOf ByteArray.empty l0_1 0) ++ (⟨#[32]⟩ : ByteArray)) ++ (rdOf ByteArray.empty l0_1 1)).size + 12 ≤ 9223372036854775807 then (some ((((rdOf ByteArray.empty l0_1 0) ++ (⟨#[32]⟩ : ByteArray)) ++ (rdOf ByteArray.empty l0_1 1)) ++ (⟨#[32, 47, 47, 32, 105, 110, 100, 105, 114, 101, 99, 116]⟩ : ByteArray))) else (none)) else (none)) else (none)) else (none)) else (none)) else (if 0 < (l0_1.length : Int) then (if (rdOf ByteArray.empty l0_1 0).size + 1 ≤ 9223372036854775807 then (if 1 < (l0_1.length : Int) then (if ((rdOf ByteArray.empty l0_1 0) ++ (⟨#[32]⟩ : ByteArray)).size + (rdOf ByteArray.empty l0_1 1).size ≤ 9223372036854775807 then (some (((rdOf ByteArray.empty l0_1 0) ++ (⟨#[32]⟩ : ByteArray)) ++ (rdOf ByteArray.empty l0_1 1))) else (none)) else (none)) else (none)) else (none))) = some r := by rw [if_pos rfl] at H; exact H
          clear H
          have H := H1
          clear H1
          by_cases c14 : a0_2 = true
          · subst c14
            have H1 : (if 0 < (l0_1.length : Int) then (if (rdOf ByteArray.empty l0_1 0).size + 1 ≤ 9223372036854775807 then (if 1 < (l0_1.length : Int) then (if ((rdOf ByteArray.empty l0_1 0) ++ (⟨#[32]⟩ : ByteArray)).size + (rdOf ByteArray.empty l0_1 1).size ≤ 9223372036854775807 then (if (((rdOf ByteArray.empty l0_1 0) ++ (⟨#[32]⟩ : ByteArray)) ++ (rdOf ByteArray.empty l0_1 1)).size + 12 ≤ 9223372036854775807 then (some ((((rdOf ByteArray.empty l0_1 0) ++ (⟨#[32]⟩ : ByteArray)) ++ (rdOf ByteArray.empty l0_1 1)) ++ (⟨#[32, 47, 47, 32, 105, 110, 100, 105, 114, 101, 99, 116]⟩ : ByteArray))) else (none)) else (none)) else (none)) else (none)) else (none)) = some r := by rw [if_pos rfl] at H; exact H
            clear H
            have H := H1
            clear H1
            by_cases c15 : 0 < (l0_1.length : Int)
            · rw [if_pos c15] at H
              have c15b0 : decide (0 < (l0_1.length : Int)) = true := decide_eq_true c15
              have c15b1 : decide (0 < l0_1.length) = true := decide_eq_true (by omega)
              clear c15
              by_cases c16 : (rdOf ByteArray.empty l0_1 0).size + 1 ≤ 9223372036854775807
              · rw [if_pos c16] at H
                have c16b0 := eq_true c16
                have c16b1 : decide ((rdOf ByteArray.empty l0_1 0).size + 1 ≤ 9223372036854775807) = true := decide_eq_true c16
                try have c16b2 : (9223372036854775807 < (rdOf ByteArray.empty l0_1 0).size + 1) = False := eq_false (Nat.not_lt.2 c16)
                by_cases c17 : 1 < (l0_1.length : Int)
                · rw [if_pos c17] at H
                  have c17b0 : decide (1 < (l0_1.length : Int)) = true := decide_eq_true c17
                  have c17b1 : decide (1 < l0_1.length) = true := decide_eq_true (by omega)
                  clear c17
                  by_cases c18 : ((rdOf ByteArray.empty l0_1 0) ++ (⟨#[32]⟩ : ByteArray)).size + (rdOf ByteArray.empty l0_1 1).size ≤ 9223372036854775807
                  · rw [if_pos c18] at H
                    have c18b0 := eq_true c18
                    have c18b1 : decide (((rdOf ByteArray.empty l0_1 0) ++ (⟨#[32]⟩ : ByteArray)).size + (rdOf ByteArray.empty l0_1 1).size ≤ 9223372036854775807) = true := decide_eq_true c18
                    try have c18b2 : (9223372036854775807 < ((rdOf ByteArray.empty l0_1 0) ++ (⟨#[32]⟩ : ByteArray)).size + (rdOf ByteArray.empty l0_1 1).size) = False := eq_false (Nat.not_lt.2 c18)
                    by_cases c19 : (((rdOf ByteArray.empty l0_1 0) ++ (⟨#[32]⟩ : ByteArray)) ++ (rdOf ByteArray.empty l0_1 1)).size + 12 ≤ 9223372036854775807
                    · rw [if_pos c19] at H
                      have c19b0 := eq_true c19
                      have c19b1 : decide ((((rdOf ByteArray.empty l0_1 0) ++ (⟨#[32]⟩ : ByteArray)) ++ (rdOf ByteArray.empty l0_1 1)).size + 12 ≤ 9223372036854775807) = true := decide_eq_true c19
                      try have c19b2 : (9223372036854775807 < (((rdOf ByteArray.empty l0_1 0) ++ (⟨#[32]⟩ : ByteArray)) ++ (rdOf ByteArray.empty l0_1 1)).size + 12) = False := eq_false (Nat.not_lt.2 c19)
                      obtain rfl := Option.some.inj H
                      have hcz20_0 : wc.cell? ⟨gb300, 0, none⟩ = some (.int .i64 a0_0) := (blk_cell BK300.out 0).trans rfl
                      have hcz20_1 : wc.cell? ⟨gb300, 1, none⟩ = some (.slice A0_1 l0_1.length c0_1) := (blk_cell BK300.out 1).trans rfl
                      have hcz20_2 : wc.cell? ⟨gb300, 2, none⟩ = some (.bool true) := (blk_cell BK300.out 2).trans rfl
                      have hfz20_0 := blk_frozen BK300.out 0
                      have hfz20_1 := blk_frozen BK300.out 1
                      have hfz20_2 := blk_frozen BK300.out 2
                      have p303 : 0 ≤ (0 : Int) := (by omega)
                      have q303 : 0 < (l0_1.length : Int) := of_decide_eq_true (by first | (with_reducible assumption) | assumption)
                      obtain ⟨ad303, e303, hx303_0⟩ := Kd.at_string HR0_1.out 0 p303 q303
                      cases e303
                      have qi303 : (0 < l0_1.length) = True := eq_true (by omega)
                      (try rw [show ((0 : Int)).toNat = 0 from rfl] at hx303_0)
                      (try rw [Addr.add_zero'] at hx303_0)
                      replace hx303_0 := (HB.out.cell (World.block_lt_of_cell? w _ hx303_0)).trans hx303_0
                      replace p303 := eq_true p303
                      replace q303 := eq_true q303
                      have p304 : 0 ≤ (1 : Int) := (by omega)
                      have q304 : 1 < (l0_1.length : Int) := of_decide_eq_true (by first | (with_reducible assumption) | assumption)
                      obtain ⟨ad304, e304, hx304_0⟩ := Kd.at_string HR0_1.out 1 p304 q304
                      obtain rfl : ad303 = ad304 := (by injection e304)
                      (try simp only [show (1 : Int).toNat = 1 from rfl, Nat.reduceMul, Nat.reduceEqDiff, Go.Addr.add, ↓reduceIte] at hx304_0)
                      have qi304 : (1 < l0_1.length) = True := eq_true (by omega)
                      (try rw [show ((1 : Int)).toNat = 1 from rfl] at hx304_0)
                      replace hx304_0 := (HB.out.cell (World.block_lt_of_cell? w _ hx304_0)).trans hx304_0
                      replace p304 := eq_true p304
                      replace q304 := eq_true q304
                      have g18 : (9223372036854775807 < (rdOf ByteArray.empty l0_1 0).size + 1 + (rdOf ByteArray.empty l0_1 1).size) = False := eq_false (by have h := c18; simp only [ByteArray.size_append] at h; have e : (⟨#[32]⟩ : ByteArray).size = 1 := rfl; omega)
                      have g19 : (9223372036854775807 < (rdOf ByteArray.empty l0_1 0).size + 1 + (rdOf ByteArray.empty l0_1 1).size + 12) = False := eq_false (by have h := c19; simp only [ByteArray.size_append] at h; have e : (⟨#[32]⟩ : ByteArray).size = 1 := rfl; omega)
                      go_wp2
                      repeat (go_quiet (fail); try go_wp2)
                      go_ret
                      exact ⟨by first | rfl | (simp [errW_none, errW_some] <;> rfl) | (simp [*, errW_none, errW_some] <;> rfl), by repeat (first | (with_reducible first | exact HB.out | apply below_alloc | apply pw_below_drewN | apply below_drew1 | refine below_set ?_ GE300.out) | exact HB.out)⟩
                    · rw [if_neg c19] at H
                      exact absurd H (by simp)
                  · rw [if_neg c18] at H
                    exact absurd H (by simp)
                · rw [if_neg c17] at H
                  exact absurd H (by simp)
              · rw [if_neg c16] at H
                exact absurd H (by simp)
            · rw [if_neg c15] at H
              exact absurd H (by simp)
          · replace c14 := Bool.eq_false_iff.mpr c14
            subst c14
            have H1 : (if 0 < (l0_1.length : Int) then (if (rdOf ByteArray.empty l0_1 0).size + 1 ≤ 9223372036854775807 then (if 1 < (l0_1.length : Int) then (if ((rdOf ByteArray.empty l0_1 0) ++ (⟨#[32]⟩ : ByteArray)).size + (rdOf ByteArray.empty l0_1 1).size ≤ 9223372036854775807 then (some (((rdOf ByteArray.empty l0_1 0) ++ (⟨#[32]⟩ : ByteArray)) ++ (rdOf ByteArray.empty l0_1 1))) else (none)) else (none)) else (none)) else (none)) = some r := by rw [if_neg (show ¬ (false = true) by decide)] at H; exact H
            clear H
            have H := H1
            clear H1
            by_cases c21 : 0 < (l0_1.length : Int)
            · rw [if_pos c21] at H
              have c21b0 : decide (0 < (l0_1.length : Int)) = true := decide_eq_true c21
              have c21b1 : decide (0 < l0_1.length) = true := decide_eq_true (by omega)
              clear c21
              by_cases c22 : (rdOf ByteArray.empty l0_1 0).size + 1 ≤ 9223372036854775807
              · rw [if_pos c22] at H
                have c22b0 := eq_true c22
                have c22b1 : decide ((rdOf ByteArray.empty l0_1 0).size + 1 ≤ 9223372036854775807) = true := decide_eq_true c22
                try have c22b2 : (9223372036854775807 < (rdOf ByteArray.empty l0_1 0).size + 1) = False := eq_false (Nat.not_lt.2 c22)
                by_cases c23 : 1 < (l0_1.length : Int)
                · rw [if_pos c23] at H
                  have c23b0 : decide (1 < (l0_1.length : Int)) = true := decide_eq_true c23
                  have c23b1 : decide (1 < l0_1.length) = true := decide_eq_true (by omega)
                  clear c23
                  by_cases c24 : ((rdOf ByteArray.empty l0_1 0) ++ (⟨#[32]⟩ : ByteArray)).size + (rdOf ByteArray.empty l0_1 1).size ≤ 9223372036854775807
                  · rw [if_pos c24] at H
                    have c24b0 := eq_true c24
                    have c24b1 : decide (((rdOf ByteArray.empty l0_1 0) ++ (⟨#[32]⟩ : ByteArray)).size + (rdOf ByteArray.empty l0_1 1).size ≤ 9223372036854775807) = true := decide_eq_true c24
                    try have c24b2 : (9223372036854775807 < ((rdOf ByteArray.empty l0_1 0) ++ (⟨#[32]⟩ : ByteArray)).size + (rdOf ByteArray.empty l0_1 1).size) = False := eq_false (Nat.not_lt.2 c24)
                    obtain rfl := Option.some.inj H
                    have hcz25_0 : wc.cell? ⟨gb300, 0, none⟩ = some (.int .i64 a0_0) := (blk_cell BK300.out 0).trans rfl
                    have hcz25_1 : wc.cell? ⟨gb300, 1, none⟩ = some (.slice A0_1 l0_1.length c0_1) := (blk_cell BK300.out 1).trans rfl
                    have hcz25_2 : wc.cell? ⟨gb300, 2, none⟩ = some (.bool false) := (blk_cell BK300.out 2).trans rfl
                    have hfz25_0 := blk_frozen BK300.out 0
                    have hfz25_1 := blk_frozen BK300.out 1
                    have hfz25_2 := blk_frozen BK300.out 2
                    have p305 : 0 ≤ (0 : Int) := (by omega)
                    have q305 : 0 < (l0_1.length : Int) := of_decide_eq_true (by first | (with_reducible assumption) | assumption)
                    obtain ⟨ad305, e305, hx305_0⟩ := Kd.at_string HR0_1.out 0 p305 q305
                    cases e305
                    have qi305 : (0 < l0_1.length) = True := eq_true (by omega)
                    (try rw [show ((0 : Int)).toNat = 0 from rfl] at hx305_0)
                    (try rw [Addr.add_zero'] at hx305_0)
                    replace hx305_0 := (HB.out.cell (World.block_lt_of_cell? w _ hx305_0)).trans hx305_0
                    replace p305 := eq_true p305
                    replace q305 := eq_true q305
                    have p306 : 0 ≤ (1 : Int) := (by omega)
                    have q306 : 1 < (l0_1.length : Int) := of_decide_eq_true (by first | (with_reducible assumption) | assumption)
                    obtain ⟨ad306, e306, hx306_0⟩ := Kd.at_string HR0_1.out 1 p306 q306
                    obtain rfl : ad305 = ad306 := (by injection e306)
                    (try simp only [show (1 : Int).toNat = 1 from rfl, Nat.reduceMul, Nat.reduceEqDiff, Go.Addr.add, ↓reduceIte] at hx306_0)
                    have qi306 : (1 < l0_1.length) = True := eq_true (by omega)
                    (try rw [show ((1 : Int)).toNat = 1 from rfl] at hx306_0)
                    replace hx306_0 := (HB.out.cell (World.block_lt_of_cell? w _ hx306_0)).trans hx306_0
                    replace p306 := eq_true p306
                    replace q306 := eq_true q306
                    go_wp2
                    repeat (go_quiet (fail); try go_wp2)
                    go_ret
                    exact ⟨by first | rfl | (simp [errW_none, errW_some] <;> rfl) | (simp [*, errW_none, errW_some] <;> rfl), by repeat (first | (with_reducible first | exact HB.out | apply below_alloc | apply pw_below_drewN | apply below_drew1 | refine below_set ?_ GE300.out) | exact HB.out)⟩
                  · rw [if_neg c24] at H
                    exact absurd H (by simp)
                · rw [if_neg c23] at H
                  exact absurd H (by simp)
              · rw [if_neg c22] at H
                exact absurd H (by simp)
            · rw [if_neg c21] at H
              exact absurd H (by simp)
        · replace c13 := Bool.eq_false_iff.mpr c13
          subst c13
          have H1 : (if a0_0 = 7 then (if 0 < (l0_1.length : Int) then (if 1 < (l0_1.length : Int) then (if (rdOf ByteArray.empty l0_1 1).toList = ([] : List UInt8) then (if 2 < (l0_1.length : Int) then (if 4 + (rdOf ByteArray.empty l0_1 2).size ≤ 9223372036854775807 then (if (rdOf ByteArray.empty l0_1 0).size + ((⟨#[32, 61, 62, 32]⟩ : ByteArray) ++ (rdOf ByteArray.empty l0_1 2)).size ≤ 9223372036854775807 then (if 3 < (l0_1.length : Int) then (if (rdOf ByteArray.empty l0_1 3).toList = ([] : List UInt8) then (some ((rdOf ByteArray.empty l0_1 0) ++ ((⟨#[32, 61, 62, 32]⟩ : ByteArray) ++ (rdOf ByteArray.empty l0_1 2)))) else (if 1 + (rdOf ByteArray.empty l0_1 3).size ≤ 9223372036854775807 then (if ((rdOf ByteArray.empty l0_1 0) ++ ((⟨#[32, 61, 62, 32]⟩ : ByteArray) ++ (rdOf ByteArray.empty l0_1 2))).size + ((⟨#[32]⟩ : ByteArray) ++ (rdOf ByteArray.empty l0_1 3)).size ≤ 9223372036854775807 then (some (((rdOf ByteArray.empty l0_1 0) ++ ((⟨#[32, 61, 62, 32]⟩ : ByteArray) ++ (rdOf ByteArray.empty l0_1 2))) ++ ((⟨#[32]⟩ : ByteArray) ++ (rdOf ByteArray.empty l0_1 3)))) else (none)) else (none))) else (none)) else (none)) else (none)) else (none)) else (if 1 + (rdOf ByteArray.empty l0_1 1).size ≤ 9223372036854775807 then (if (rdOf ByteArray.empty l0_1 0).size + ((⟨#[32]⟩ : ByteArray) ++ (rdOf ByteArray.empty l0_1 1)).size ≤ 9223372036854775807 then (if 2 < (l0_1.length : Int) then (if 4 + (rdOf ByteArray.empty l0_1 2).size ≤ 9223372036854775807 then (if ((rdOf ByteArray.empty l0_1 0) ++ ((⟨#[32]⟩ : ByteArray) ++ (rdOf ByteArray.empty l0_1 1))).size + ((⟨#[32, 61, 62, 32]⟩ : ByteArray) ++ (rdOf ByteArray.empty l0_1 2)).size ≤ 9223372036854775807 then (if 3 < (l0_1.length : Int) then (if (rdOf ByteArray.empty l0_1 3).toList = ([] : List UInt8) then (some (((rdOf ByteArray.empty l0_1 0) ++ ((⟨#[32]⟩ : ByteArray) ++ (rdOf ByteArray.empty l0_1 1))) ++ ((⟨#[32, 61, 62, 32]⟩ : ByteArray) ++ (rdOf ByteArray.empty l0_1 2)))) else (if 1 + (rdOf ByteArray.empty l0_1 3).size ≤ 9223372036854775807 then (if (((rdOf ByteArray.empty l0_1 0) ++ ((⟨#[32]⟩ : ByteArray) ++ (rdOf ByteArray.empty l0_1 1))) ++ ((⟨#[32, 61, 62, 32]⟩ : ByteArray) ++ (rdOf ByteArray.empty l0_1 2))).size + ((⟨#[32]⟩ : ByteArray) ++ (rdOf ByteArray.empty l0_1 3)).size ≤ 9223372036854775807 then (some ((((rdOf ByteArray.empty l0_1 0) ++ ((⟨#[32]⟩ : ByteArray) ++ (rdOf ByteArray.empty l0_1 1))) ++ ((⟨#[32, 61, 62, 32]⟩ : ByteArray) ++ (rdOf ByteArray.empty l0_1 2))) ++ ((⟨#[32]⟩ : ByteArray) ++ (rdOf ByteArray.empty l0_1 3)))) else (none)) else (none))) else (none)) else (none)) else (none)) else (none)) else (none)) else (none))) else (none)) else (none)) else (if a0_0 = 8 then (if 0 < (l0_1.length : Int) then (if 1 < (l0_1.length : Int) then (if (rdOf ByteArray.empty l0_1 0).toList = (rdOf ByteArray.empty l0_1 1).toList then (some (rdOf ByteArray.empty l0_1 0)) else (if 1 + (rdOf ByteArray.empty l0_1 0).size ≤ 9223372036854775807 then (if ((⟨#[91]⟩ : ByteArray) ++ (rdOf ByteArray.empty l0_1 0)).size + 2 ≤ 9223372036854775807 then (if (((⟨#[91]⟩ : ByteArray) ++ (rdOf ByteArray.empty l0_1 0)) ++ (⟨#[44, 32]⟩ : ByteArray)).size + (rdOf ByteArray.empty l0_1 1).size ≤ 9223372036854775807 then (if ((((⟨#[91]⟩ : ByteArray) ++ (rdOf ByteArray.empty l0_1 0)) ++ (⟨#[44, 32]⟩ : ByteArray)) ++ (rdOf ByteArray.empty l0_1 1)).size + 1 ≤ 9223372036854775807 then (some (((((⟨#[91]⟩ : ByteArray) ++ (rdOf ByteArray.empty l0_1 0)) ++ (⟨#[44, 32]⟩ : ByteArray)) ++ (rdOf ByteArray.empty l0_1 1)) ++ (⟨#[93]⟩ : ByteArray))) else (none)) else (none)) else (none)) else (none))) else (none)) else (none)) else (if 0 < (l0_1.length : Int) then (some (rdOf ByteArray.empty l0_1 0)) else (none)))) = some r := by rw [if_neg (show ¬ (false = true) by decide)] at H; exact H
          clear H
          have H := H1
          clear H1
          by_cases c26 : a0_0 = 7
          · rw [if_pos c26] at H
            have c26b0 : (a0_0 == 7) = true := beq_iff_eq.mpr c26
            have c26b1 : (a0_0 != 7) = false := bne_eq_false_iff_eq.mpr c26
            clear c26
            by_cases c27 : 0 < (l0_1.length : Int)
            · rw [if_pos c27] at H
              have c27b0 : decide (0 < (l0_1.length : Int)) = true := decide_eq_true c27
              have c27b1 : decide (0 < l0_1.length) = true := decide_eq_true (by omega)
              clear c27
              by_cases c28 : 1 < (l0_1.length : Int)
              · rw [if_pos c28] at H
                have c28b0 : decide (1 < (l0_1.length : Int)) = true := decide_eq_true c28
                have c28b1 : decide (1 < l0_1.length) = true := decide_eq_true (by omega)
                clear c28
                by_cases c29 : (rdOf ByteArray.empty l0_1 1).toList = ([] : List UInt8)
                · rw [if_pos c29] at H
                  have c29b0 : ((rdOf ByteArray.empty l0_1 1).toList == ([] : List UInt8)) = true := beq_iff_eq.mpr c29
                  have c29b1 : ((rdOf ByteArray.empty l0_1 1).toList != ([] : List UInt8)) = false := bne_eq_false_iff_eq.mpr c29
                  clear c29
                  by_cases c30 : 2 < (l0_1.length : Int)
                  · rw [if_pos c30] at H
                    have c30b0 : decide (2 < (l0_1.length : Int)) = true := decide_eq_true c30
                    have c30b1 : decide (2 < l0_1.length) = true := decide_eq_true (by omega)
                    clear c30
                    by_cases c31 : 4 + (rdOf ByteArray.empty l0_1 2).size ≤ 9223372036854775807
                    · rw [if_pos c31] at H
                      have c31b0 := eq_true c31
                      have c31b1 : decide (4 + (rdOf ByteArray.empty l0_1 2).size ≤ 9223372036854775807) = true := decide_eq_true c31
                      try have c31b2 : (9223372036854775807 < 4 + (rdOf ByteArray.empty l0_1 2).size) = False := eq_false (Nat.not_lt.2 c31)
                      by_cases c32 : (rdOf ByteArray.empty l0_1 0).size + ((⟨#[32, 61, 62, 32]⟩ : ByteArray) ++ (rdOf ByteArray.empty l0_1 2)).size ≤ 9223372036854775807
                      · rw [if_pos c32] at H
                        have c32b0 := eq_true c32
                        have c32b1 : decide ((rdOf ByteArray.empty l0_1 0).size + ((⟨#[32, 61, 62, 32]⟩ : ByteArray) ++ (rdOf ByteArray.empty l0_1 2)).size ≤ 9223372036854775807) = true := decide_eq_true c32
                        try have c32b2 : (9223372036854775807 < (rdOf ByteArray.empty l0_1 0).size + ((⟨#[32, 61, 62, 32]⟩ : ByteArray) ++ (rdOf ByteArray.empty l0_1 2)).size) = False := eq_false (Nat.not_lt.2 c32)
                        by_cases c33 : 3 < (l0_1.length : Int)
                        · rw [if_pos c33] at H
                          have c33b0 : decide (3 < (l0_1.length : Int)) = true := decide_eq_true c33
                          have c33b1 : decide (3 < l0_1.length) = true := decide_eq_true (by omega)
                          clear c33
                          by_cases c34 : (rdOf ByteArray.empty l0_1 3).toList = ([] : List UInt8)
                          · rw [if_pos c34] at H
                            have c34b0 : ((rdOf ByteArray.empty l0_1 3).toList == ([] : List UInt8)) = true := beq_iff_eq.mpr c34
                            have c34b1 : ((rdOf ByteArray.empty l0_1 3).toList != ([] : List UInt8)) = false := bne_eq_false_iff_eq.mpr c34
                            clear c34
                            obtain rfl := Option.some.inj H
                            have p307 : 0 ≤ (0 : Int) := (by omega)
                            have q307 : 0 < (l0_1.length : Int) := of_decide_eq_true (by first | (with_reducible assumption) | assumption)
                            obtain ⟨ad307, e307, hx307_0⟩ := Kd.at_string HR0_1.out 0 p307 q307
                            cases e307
                            have qi307 : (0 < l0_1.length) = True := eq_true (by omega)
                            (try rw [show ((0 : Int)).toNat = 0 from rfl] at hx307_0)
                            (try rw [Addr.add_zero'] at hx307_0)
                            replace hx307_0 := (HB.out.cell (World.block_lt_of_cell? w _ hx307_0)).trans hx307_0
                            replace p307 := eq_true p307
                            replace q307 := eq_true q307
                            have p308 : 0 ≤ (1 : Int) := (by omega)
                            have q308 : 1 < (l0_1.length : Int) := of_decide_eq_true (by first | (with_reducible assumption) | assumption)
                            obtain ⟨ad308, e308, hx308_0⟩ := Kd.at_string HR0_1.out 1 p308 q308
                            obtain rfl : ad307 = ad308 := (by injection e308)
                            (try simp only [show (1 : Int).toNat = 1 from rfl, Nat.reduceMul, Nat.reduceEqDiff, Go.Addr.add, ↓reduceIte] at hx308_0)
                            have qi308 : (1 < l0_1.length) = True := eq_true (by omega)
                            (try rw [show ((1 : Int)).toNat = 1 from rfl] at hx308_0)
                            replace hx308_0 := (HB.out.cell (World.block_lt_of_cell? w _ hx308_0)).trans hx308_0
                            replace p308 := eq_true p308
                            replace q308 := eq_true q308
                            have p309 : 0 ≤ (2 : Int) := (by omega)
                            have q309 : 2 < (l0_1.length : Int) := of_decide_eq_true (by first | (with_reducible assumption) | assumption)
                            obtain ⟨ad309, e309, hx309_0⟩ := Kd.at_string HR0_1.out 2 p309 q309
                            obtain rfl : ad307 = ad309 := (by injection e309)
                            (try simp only [show (2 : Int).toNat = 2 from rfl, Nat.reduceMul, Nat.reduceEqDiff, Go.Addr.add, ↓reduceIte] at hx309_0)
                            have qi309 : (2 < l0_1.length) = True := eq_true (by omega)
                            (try rw [show ((2 : Int)).toNat = 2 from rfl] at hx309_0)
                            replace hx309_0 := (HB.out.cell (World.block_lt_of_cell? w _ hx309_0)).trans hx309_0
                            replace p309 := eq_true p309
                            replace q309 := eq_true q309
                            have p310 : 0 ≤ (3 : Int) := (by omega)
                            have q310 : 3 < (l0_1.length : Int) := of_decide_eq_true (by first | (with_reducible assumption) | assumption)
                            obtain ⟨ad310, e310, hx310_0⟩ := Kd.at_string HR0_1.out 3 p310 q310
                            obtain rfl : ad307 = ad310 := (by injection e310)
                            (try simp only [show (3 : Int).toNat = 3 from rfl, Nat.reduceMul, Nat.reduceEqDiff, Go.Addr.add, ↓reduceIte] at hx310_0)
                            have qi310 : (3 < l0_1.length) = True := eq_true (by omega)
                            (try rw [show ((3 : Int)).toNat = 3 from rfl] at hx310_0)
                            replace hx310_0 := (HB.out.cell (World.block_lt_of_cell? w _ hx310_0)).trans hx310_0
                            replace p310 := eq_true p310
                            replace q310 := eq_true q310
                            go_wp2
                            repeat (go_quiet (fail); try go_wp2)
                            go_ret
                            exact ⟨by first | rfl | (simp [errW_none, errW_some] <;> rfl) | (simp [*, errW_none, errW_some] <;> rfl), by repeat (first | (with_reducible first | exact HB.out | apply below_alloc | apply pw_below_drewN | apply below_drew1 | refine below_set ?_ GE300.out) | exact HB.out)⟩
                          · rw [if_neg c34] at H
                            have c34b0 : ((rdOf ByteArray.empty l0_1 3).toList == ([] : List UInt8)) = false := beq_eq_false_iff_ne.mpr c34
                            have c34b1 : ((rdOf ByteArray.empty l0_1 3).toList != ([] : List UInt8)) = true := bne_iff_ne.mpr c34
                            by_cases c35 : 1 + (rdOf ByteArray.empty l0_1 3).size ≤ 9223372036854775807
                            · rw [if_pos c35] at H
                              have c35b0 := eq_true c35
                              have c35b1 : decide (1 + (rdOf ByteArray.empty l0_1 3).size ≤ 9223372036854775807) = true := decide_eq_true c35
                              try have c35b2 : (9223372036854775807 < 1 + (rdOf ByteArray.empty l0_1 3).size) = False := eq_false (Nat.not_lt.2 c35)
                              by_cases c36 : ((rdOf ByteArray.empty l0_1 0) ++ ((⟨#[32, 61, 62, 32]⟩ : ByteArray) ++ (rdOf ByteArray.empty l0_1 2))).size + ((⟨#[32]⟩ : ByteArray) ++ (rdOf ByteArray.empty l0_1 3)).size ≤ 9223372036854775807
                              · rw [if_pos c36] at H
                                have c36b0 := eq_true c36
                                have c36b1 : decide (((rdOf ByteArray.empty l0_1 0) ++ ((⟨#[32, 61, 62, 32]⟩ : ByteArray) ++ (rdOf ByteArray.empty l0_1 2))).size + ((⟨#[32]⟩ : ByteArray) ++ (rdOf ByteArray.empty l0_1 3)).size ≤ 9223372036854775807) = true := decide_eq_true c36
                                try have c36b2 : (9223372036854775807 < ((rdOf ByteArray.empty l0_1 0) ++ ((⟨#[32, 61, 62, 32]⟩ : ByteArray) ++ (rdOf ByteArray.empty l0_1 2))).size + ((⟨#[32]⟩ : ByteArray) ++ (rdOf ByteArray.empty l0_1 3)).size) = False := eq_false (Nat.not_lt.2 c36)
                                obtain rfl := Option.some.inj H
                                have p307 : 0 ≤ (0 : Int) := (by omega)
                                have q307 : 0 < (l0_1.length : Int) := of_decide_eq_true (by first | (with_reducible assumption) | assumption)
                                obtain ⟨ad307, e307, hx307_0⟩ := Kd.at_string HR0_1.out 0 p307 q307
                                cases e307
                                have qi307 : (0 < l0_1.length) = True := eq_true (by omega)
                                (try rw [show ((0 : Int)).toNat = 0 from rfl] at hx307_0)
                                (try rw [Addr.add_zero'] at hx307_0)
                                replace hx307_0 := (HB.out.cell (World.block_lt_of_cell? w _ hx307_0)).trans hx307_0
                                replace p307 := eq_true p307
                                replace q307 := eq_true q307
                                have p308 : 0 ≤ (1 : Int) := (by omega)
                                have q308 : 1 < (l0_1.length : Int) := of_decide_eq_true (by first | (with_reducible assumption) | assumption)
                                obtain ⟨ad308, e308, hx308_0⟩ := Kd.at_string HR0_1.out 1 p308 q308
                                obtain rfl : ad307 = ad308 := (by injection e308)
                                (try simp only [show (1 : Int).toNat = 1 from rfl, Nat.reduceMul, Nat.reduceEqDiff, Go.Addr.add, ↓reduceIte] at hx308_0)
                                have qi308 : (1 < l0_1.length) = True := eq_true (by omega)
                                (try rw [show ((1 : Int)).toNat = 1 from rfl] at hx308_0)
                                replace hx308_0 := (HB.out.cell (World.block_lt_of_cell? w _ hx308_0)).trans hx308_0
                                replace p308 := eq_true p308
                                replace q308 := eq_true q308
                                have p309 : 0 ≤ (2 : Int) := (by omega)
                                have q309 : 2 < (l0_1.length : Int) := of_decide_eq_true (by first | (with_reducible assumption) | assumption)
                                obtain ⟨ad309, e309, hx309_0⟩ := Kd.at_string HR0_1.out 2 p309 q309
                                obtain rfl : ad307 = ad309 := (by injection e309)
                                (try simp only [show (2 : Int).toNat = 2 from rfl, Nat.reduceMul, Nat.reduceEqDiff, Go.Addr.add, ↓reduceIte] at hx309_0)
                                have qi309 : (2 < l0_1.length) = True := eq_true (by omega)
                                (try rw [show ((2 : Int)).toNat = 2 from rfl] at hx309_0)
                                replace hx309_0 := (HB.out.cell (World.block_lt_of_cell? w _ hx309_0)).trans hx309_0
                                replace p309 := eq_true p309
                                replace q309 := eq_true q309
                                have p310 : 0 ≤ (3 : Int) := (by omega)
                                have q310 : 3 < (l0_1.length : Int) := of_decide_eq_true (by first | (with_reducible assumption) | assumption)
                                obtain ⟨ad310, e310, hx310_0⟩ := Kd.at_string HR0_1.out 3 p310 q310
                                obtain rfl : ad307 = ad310 := (by injection e310)
                                (try simp only [show (3 : Int).toNat = 3 from rfl, Nat.reduceMul, Nat.reduceEqDiff, Go.Addr.add, ↓reduceIte] at hx310_0)
                                have qi310 : (3 < l0_1.length) = True := eq_true (by omega)
                                (try rw [show ((3 : Int)).toNat = 3 from rfl] at hx310_0)
                                replace hx310_0 := (HB.out.cell (World.block_lt_of_cell? w _ hx310_0)).trans hx310_0
                                replace p310 := eq_true p310
                                replace q310 := eq_true q310
                                have p311 : 0 ≤ (3 : Int) := (by omega)
                                have q311 : 3 < (l0_1.length : Int) := of_decide_eq_true (by first | (with_reducible assumption) | assumption)
                                obtain ⟨ad311, e311, hx311_0⟩ := Kd.at_string HR0_1.out 3 p311 q311
                                obtain rfl : ad307 = ad311 := (by injection e311)
                                (try simp only [show (3 : Int).toNat = 3 from rfl, Nat.reduceMul, Nat.reduceEqDiff, Go.Addr.add, ↓reduceIte] at hx311_0)
                                have qi311 : (3 < l0_1.length) = True := eq_true (by omega)
                                (try rw [show ((3 : Int)).toNat = 3 from rfl] at hx311_0)
                                replace hx311_0 := (HB.out.cell (World.block_lt_of_cell? w _ hx311_0)).trans hx311_0
                                replace p311 := eq_true p311
                                replace q311 := eq_true q311
                                go_wp2
                                repeat (go_quiet (fail); try go_wp2)
                                go_ret
                                exact ⟨by first | rfl | (simp [errW_none, errW_some] <;> rfl) | (simp [*, errW_none, errW_some] <;> rfl), by repeat (first | (with_reducible first | exact HB.out | apply below_alloc | apply pw_below_drewN | apply below_drew1 | refine below_set ?_ GE300.out) | exact HB.out)⟩
                              · rw [if_neg c36] at H
                                exact absurd H (by simp)
                            · rw [if_neg c35] at H
                              exact absurd H (by simp)
                        · rw [if_neg c33] at H
                          exact absurd H (by simp)
                      · rw [if_neg c32] at H
                        exact absurd H (by simp)
                    · rw [if_neg c31] at H
                      exact absurd H (by simp)
                  · rw [if_neg c30] at H
                    exact absurd H (by simp)
                · rw [if_neg c29] at H
                  have c29b0 : ((rdOf ByteArray.empty l0_1 1).toList == ([] : List UInt8)) = false := beq_eq_false_iff_ne.mpr c29
                  have c29b1 : ((rdOf ByteArray.empty l0_1 1).toList != ([] : List UInt8)) = true := bne_iff_ne.mpr c29
                  by_cases c37 : 1 + (rdOf ByteArray.empty l0_1 1).size ≤ 9223372036854775807
                  · rw [if_pos c37] at H
                    have c37b0 := eq_true c37
                    have c37b1 : decide (1 + (rdOf ByteArray.empty l0_1 1).size ≤ 9223372036854775807) = true := decide_eq_true c37
                    try have c37b2 : (9223372036854775807 < 1 + (rdOf ByteArray.empty l0_1 1).size) = False := eq_false (Nat.not_lt.2 c37)
                    by_cases c38 : (rdOf ByteArray.empty l0_1 0).size + ((⟨#[32]⟩ : ByteArray) ++ (rdOf ByteArray.empty l0_1 1)).size ≤ 9223372036854775807
                    · rw [if_pos c38] at H
                      have c38b0 := eq_true c38
                      have c38b1 : decide ((rdOf ByteArray.empty l0_1 0).size + ((⟨#[32]⟩ : ByteArray) ++ (rdOf ByteArray.empty l0_1 1)).size ≤ 9223372036854775807) = true := decide_eq_true c38
                      try have c38b2 : (9223372036854775807 < (rdOf ByteArray.empty l0_1 0).size + ((⟨#[32]⟩ : ByteArray) ++ (rdOf ByteArray.empty l0_1 1)).size) = False := eq_false (Nat.not_lt.2 c38)
                      by_cases c39 : 2 < (l0_1.length : Int)
                      · rw [if_pos c39] at H
                        have c39b0 : decide (2 < (l0_1.length : Int)) = true := decide_eq_true c39
                        have c39b1 : decide (2 < l0_1.length) = true := decide_eq_true (by omega)
                        clear c39
                        by_cases c40 : 4 + (rdOf ByteArray.empty l0_1 2).size ≤ 9223372036854775807
                        · rw [if_pos c40] at H
                          have c40b0 := eq_true c40
                          have c40b1 : decide (4 + (rdOf ByteArray.empty l0_1 2).size ≤ 9223372036854775807) = true := decide_eq_true c40
                          try have c40b2 : (9223372036854775807 < 4 + (rdOf ByteArray.empty l0_1 2).size) = False := eq_false (Nat.not_lt.2 c40)
                          by_cases c41 : ((rdOf ByteArray.empty l0_1 0) ++ ((⟨#[32]⟩ : ByteArray) ++ (rdOf ByteArray.empty l0_1 1))).size + ((⟨#[32, 61, 62, 32]⟩ : ByteArray) ++ (rdOf ByteArray.empty l0_1 2)).size ≤ 9223372036854775807
                          · rw [if_pos c41] at H
                            have c41b0 := eq_true c41
                            have c41b1 : decide (((rdOf ByteArray.empty l0_1 0) ++ ((⟨#[32]⟩ : ByteArray) ++ (rdOf ByteArray.empty l0_1 1))).size + ((⟨#[32, 61, 62, 32]⟩ : ByteArray) ++ (rdOf ByteArray.empty l0_1 2)).size ≤ 9223372036854775807) = true := decide_eq_true c41
                            try have c41b2 : (9223372036854775807 < ((rdOf ByteArray.empty l0_1 0) ++ ((⟨#[32]⟩ : ByteArray) ++ (rdOf ByteArray.empty l0_1 1))).size + ((⟨#[32, 61, 62, 32]⟩ : ByteArray) ++ (rdOf ByteArray.empty l0_1 2)).size) = False := eq_false (Nat.not_lt.2 c41)
                            by_cases c42 : 3 < (l0_1.length : Int)
                            · rw [if_pos c42] at H
                              have c42b0 : decide (3 < (l0_1.length : Int)) = true := decide_eq_true c42
                              have c42b1 : decide (3 < l0_1.length) = true := decide_eq_true (by omega)
                              clear c42
                              by_cases c43 : (rdOf ByteArray.empty l0_1 3).toList = ([] : List UInt8)
                              · rw [if_pos c43] at H
                                have c43b0 : ((rdOf ByteArray.empty l0_1 3).toList == ([] : List UInt8)) = true := beq_iff_eq.mpr c43
                                have c43b1 : ((rdOf ByteArray.empty l0_1 3).toList != ([] : List UInt8)) = false := bne_eq_false_iff_eq.mpr c43
                                clear c43
                                obtain rfl := Option.some.inj H
                                have p307 : 0 ≤ (0 : Int) := (by omega)
                                have q307 : 0 < (l0_1.length : Int) := of_decide_eq_true (by first | (with_reducible assumption) | assumption)
                                obtain ⟨ad307, e307, hx307_0⟩ := Kd.at_string HR0_1.out 0 p307 q307
                                cases e307
                                have qi307 : (0 < l0_1.length) = True := eq_true (by omega)
                                (try rw [show ((0 : Int)).toNat = 0 from rfl] at hx307_0)
                                (try rw [Addr.add_zero'] at hx307_0)
                                replace hx307_0 := (HB.out.cell (World.block_lt_of_cell? w _ hx307_0)).trans hx307_0
                                replace p307 := eq_true p307
                                replace q307 := eq_true q307
                                have p308 : 0 ≤ (1 : Int) := (by omega)
                                have q308 : 1 < (l0_1.length : Int) := of_decide_eq_true (by first | (with_reducible assumption) | assumption)
                                obtain ⟨ad308, e308, hx308_0⟩ := Kd.at_string HR0_1.out 1 p308 q308
                                obtain rfl : ad307 = ad308 := (by injection e308)
                                (try simp only [show (1 : Int).toNat = 1 from rfl, Nat.reduceMul, Nat.reduceEqDiff, Go.Addr.add, ↓reduceIte] at hx308_0)
                                have qi308 : (1 < l0_1.length) = True := eq_true (by omega)
                                (try rw [show ((1 : Int)).toNat = 1 from rfl] at hx308_0)
                                replace hx308_0 := (HB.out.cell (World.block_lt_of_cell? w _ hx308_0)).trans hx308_0
                                replace p308 := eq_true p308
                                replace q308 := eq_true q308
                                have p312 : 0 ≤ (1 : Int) := (by omega)
                                have q312 : 1 < (l0_1.length : Int) := of_decide_eq_true (by first | (with_reducible assumption) | assumption)
                                obtain ⟨ad312, e312, hx312_0⟩ := Kd.at_string HR0_1.out 1 p312 q312
                                obtain rfl : ad307 = ad312 := (by injection e312)
                                (try simp only [show (1 : Int).toNat = 1 from rfl, Nat.reduceMul, Nat.reduceEqDiff, Go.Addr.add, ↓reduceIte] at hx312_0)
                                have qi312 : (1 < l0_1.length) = True := eq_true (by omega)
                                (try rw [show ((1 : Int)).toNat = 1 from rfl] at hx312_0)
                                replace hx312_0 := (HB.out.cell (World.block_lt_of_cell? w _ hx312_0)).trans hx312_0
                                replace p312 := eq_true p312
                                replace q312 := eq_true q312
                                have p313 : 0 ≤ (2 : Int) := (by omega)
                                have q313 : 2 < (l0_1.length : Int) := of_decide_eq_true (by first | (with_reducible assumption) | assumption)
                                obtain ⟨ad313, e313, hx313_0⟩ := Kd.at_string HR0_1.out 2 p313 q313
                                obtain rfl : ad307 = ad313 := (by injection e313)
                                (try simp only [show (2 : Int).toNat = 2 from rfl, Nat.reduceMul, Nat.reduceEqDiff, Go.Addr.add, ↓reduceIte] at hx313_0)
                                have qi313 : (2 < l0_1.length) = True := eq_true (by omega)
                                (try rw [show ((2 : Int)).toNat = 2 from rfl] at hx313_0)
                                replace hx313_0 := (HB.out.cell (World.block_lt_of_cell? w _ hx313_0)).trans hx313_0
                                replace p313 := eq_true p313
                                replace q313 := eq_true q313
                                have p314 : 0 ≤ (3 : Int) := (by omega)
                                have q314 : 3 < (l0_1.length : Int) := of_decide_eq_true (by first | (with_reducible assumption) | assumption)
                                obtain ⟨ad314, e314, hx314_0⟩ := Kd.at_string HR0_1.out 3 p314 q314
                                obtain rfl : ad307 = ad314 := (by injection e314)
                                (try simp only [show (3 : Int).toNat = 3 from rfl, Nat.reduceMul, Nat.reduceEqDiff, Go.Addr.add, ↓reduceIte] at hx314_0)
                                have qi314 : (3 < l0_1.length) = True := eq_true (by omega)
                                (try rw [show ((3 : Int)).toNat = 3 from rfl] at hx314_0)
                                replace hx314_0 := (HB.out.cell (World.block_lt_of_cell? w _ hx314_0)).trans hx314_0
                                replace p314 := eq_true p314
                                replace q314 := eq_true q314
                                go_wp2
                                repeat (go_quiet (fail); try go_wp2)
                                go_ret
                                exact ⟨by first | rfl | (simp [errW_none, errW_some] <;> rfl) | (simp [*, errW_none, errW_some] <;> rfl), by repeat (first | (with_reducible first | exact HB.out | apply below_alloc | apply pw_below_drewN | apply below_drew1 | refine below_set ?_ GE300.out) | exact HB.out)⟩
                              · rw [if_neg c43] at H
                                have c43b0 : ((rdOf ByteArray.empty l0_1 3).toList == ([] : List UInt8)) = false := beq_eq_false_iff_ne.mpr c43
                                have c43b1 : ((rdOf ByteArray.empty l0_1 3).toList != ([] : List UInt8)) = true := bne_iff_ne.mpr c43
                                by_cases c44 : 1 + (rdOf ByteArray.empty l0_1 3).size ≤ 9223372036854775807
                                · rw [if_pos c44] at H
                                  have c44b0 := eq_true c44
                                  have c44b1 : decide (1 + (rdOf ByteArray.empty l0_1 3).size ≤ 9223372036854775807) = true := decide_eq_true c44
                                  try have c44b2 : (9223372036854775807 < 1 + (rdOf ByteArray.empty l0_1 3).size) = False := eq_false (Nat.not_lt.2 c44)
                                  by_cases c45 : (((rdOf ByteArray.empty l0_1 0) ++ ((⟨#[32]⟩ : ByteArray) ++ (rdOf ByteArray.empty l0_1 1))) ++ ((⟨#[32, 61, 62, 32]⟩ : ByteArray) ++ (rdOf ByteArray.empty l0_1 2))).size + ((⟨#[32]⟩ : ByteArray) ++ (rdOf ByteArray.empty l0_1 3)).size ≤ 9223372036854775807
                                  · rw [if_pos c45] at H
                                    have c45b0 := eq_true c45
                                    have c45b1 : decide ((((rdOf ByteArray.empty l0_1 0) ++ ((⟨#[32]⟩ : ByteArray) ++ (rdOf ByteArray.empty l0_1 1))) ++ ((⟨#[32, 61, 62, 32]⟩ : ByteArray) ++ (rdOf ByteArray.empty l0_1 2))).size + ((⟨#[32]⟩ : ByteArray) ++ (rdOf ByteArray.empty l0_1 3)).size ≤ 9223372036854775807) = true := decide_eq_true c45
                                    try have c45b2 : (9223372036854775807 < (((rdOf ByteArray.empty l0_1 0) ++ ((⟨#[32]⟩ : ByteArray) ++ (rdOf ByteArray.empty l0_1 1))) ++ ((⟨#[32, 61, 62, 32]⟩ : ByteArray) ++ (rdOf ByteArray.empty l0_1 2))).size + ((⟨#[32]⟩ : ByteArray) ++ (rdOf ByteArray.empty l0_1 3)).size) = False := eq_false (Nat.not_lt.2 c45)
                                    obtain rfl := Option.some.inj H
                                    have p307 : 0 ≤ (0 : Int) := (by omega)
                                    have q307 : 0 < (l0_1.length : Int) := of_decide_eq_true (by first | (with_reducible assumption) | assumption)
                                    obtain ⟨ad307, e307, hx307_0⟩ := Kd.at_string HR0_1.out 0 p307 q307
                                    cases e307
                                    have qi307 : (0 < l0_1.length) = True := eq_true (by omega)
                                    (try rw [show ((0 : Int)).toNat = 0 from rfl] at hx307_0)
                                    (try rw [Addr.add_zero'] at hx307_0)
                                    replace hx307_0 := (HB.out.cell (World.block_lt_of_cell? w _ hx307_0)).trans hx307_0
                                    replace p307 := eq_true p307
                                    replace q307 := eq_true q307
                                    have p308 : 0 ≤ (1 : Int) := (by omega)
                                    have q308 : 1 < (l0_1.length : Int) := of_decide_eq_true (by first | (with_reducible assumption) | assumption)
                                    obtain ⟨ad308, e308, hx308_0⟩ := Kd.at_string HR0_1.out 1 p308 q308
                                    obtain rfl : ad307 = ad308 := (by injection e308)
                                    (try simp only [show (1 : Int).toNat = 1 from rfl, Nat.reduceMul, Nat.reduceEqDiff, Go.Addr.add, ↓reduceIte] at hx308_0)
                                    have qi308 : (1 < l0_1.length) = True := eq_true (by omega)
                                    (try rw [show ((1 : Int)).toNat = 1 from rfl] at hx308_0)
                                    replace hx308_0 := (HB.out.cell (World.block_lt_of_cell? w _ hx308_0)).trans hx308_0
                                    replace p308 := eq_true p308
                                    replace q308 := eq_true q308
                                    have p312 : 0 ≤ (1 : Int) := (by omega)
                                    have q312 : 1 < (l0_1.length : Int) := of_decide_eq_true (by first | (with_reducible assumption) | assumption)
                                    obtain ⟨ad312, e312, hx312_0⟩ := Kd.at_string HR0_1.out 1 p312 q312
                                    obtain rfl : ad307 = ad312 := (by injection e312)
                                    (try simp only [show (1 : Int).toNat = 1 from rfl, Nat.reduceMul, Nat.reduceEqDiff, Go.Addr.add, ↓reduceIte] at hx312_0)
                                    have qi312 : (1 < l0_1.length) = True := eq_true (by omega)
                                    (try rw [show ((1 : Int)).toNat = 1 from rfl] at hx312_0)
                                    replace hx312_0 := (HB.out.cell (World.block_lt_of_cell? w _ hx312_0)).trans hx312_0
                                    replace p312 := eq_true p312
                                    replace q312 := eq_true q312
                                    have p313 : 0 ≤ (2 : Int) := (by omega)
                                    have q313 : 2 < (l0_1.length : Int) := of_decide_eq_true (by first | (with_reducible assumption) | assumption)
                                    obtain ⟨ad313, e313, hx313_0⟩ := Kd.at_string HR0_1.out 2 p313 q313
                                    obtain rfl : ad307 = ad313 := (by injection e313)
                                    (try simp only [show (2 : Int).toNat = 2 from rfl, Nat.reduceMul, Nat.reduceEqDiff, Go.Addr.add, ↓reduceIte] at hx313_0)
                                    have qi313 : (2 < l0_1.length) = True := eq_true (by omega)
                                    (try rw [show ((2 : Int)).toNat = 2 from rfl] at hx313_0)
                                    replace hx313_0 := (HB.out.cell (World.block_lt_of_cell? w _ hx313_0)).trans hx313_0
                                    replace p313 := eq_true p313
                                    replace q313 := eq_true q313
                                    have p314 : 0 ≤ (3 : Int) := (by omega)
                                    have q314 : 3 < (l0_1.length : Int) := of_decide_eq_true (by first | (with_reducible assumption) | assumption)
                                    obtain ⟨ad314, e314, hx314_0⟩ := Kd.at_string HR0_1.out 3 p314 q314
                                    obtain rfl : ad307 = ad314 := (by injection e314)
                                    (try simp only [show (3 : Int).toNat = 3 from rfl, Nat.reduceMul, Nat.reduceEqDiff, Go.Addr.add, ↓reduceIte] at hx314_0)
                                    have qi314 : (3 < l0_1.length) = True := eq_true (by omega)
                                    (try rw [show ((3 : Int)).toNat = 3 from rfl] at hx314_0)
                                    replace hx314_0 := (HB.out.cell (World.block_lt_of_cell? w _ hx314_0)).trans hx314_0
                                    replace p314 := eq_true p314
                                    replace q314 := eq_true q314
                                    have p315 : 0 ≤ (3 : Int) := (by omega)
                                    have q315 : 3 < (l0_1.length : Int) := of_decide_eq_true (by first | (with_reducible assumption) | assumption)
                                    obtain ⟨ad315, e315, hx315_0⟩ := Kd.at_string HR0_1.out 3 p315 q315
                                    obtain rfl : ad307 = ad315 := (by injection e315)
                                    (try simp only [show (3 : Int).toNat = 3 from rfl, Nat.reduceMul, Nat.reduceEqDiff, Go.Addr.add, ↓reduceIte] at hx315_0)
                                    have qi315 : (3 < l0_1.length) = True := eq_true (by omega)
                                    (try rw [show ((3 : Int)).toNat = 3 from rfl] at hx315_0)
                                    replace hx315_0 := (HB.out.cell (World.block_lt_of_cell? w _ hx315_0)).trans hx315_0
                                    replace p315 := eq_true p315
                                    replace q315 := eq_true q315
                                    go_wp2
                                    repeat (go_quiet (fail); try go_wp2)
                                    go_ret
                                    exact ⟨by first | rfl | (simp [errW_none, errW_some] <;> rfl) | (simp [*, errW_none, errW_some] <;> rfl), by repeat (first | (with_reducible first | exact HB.out | apply below_alloc | apply pw_below_drewN | apply below_drew1 | refine below_set ?_ GE300.out) | exact HB.out)⟩
                                  · rw [if_neg c45] at H
                                    exact absurd H (by simp)
                                · rw [if_neg c44] at H
                                  exact absurd H (by simp)
                            · rw [if_neg c42] at H
                              exact absurd H (by simp)
                          · rw [if_neg c41] at H
                            exact absurd H (by simp)
                        · rw [if_neg c40] at H
                          exact absurd H (by simp)
                      · rw [if_neg c39] at H
                        exact absurd H (by simp)
                    · rw [if_neg c38] at H
                      exact absurd H (by simp)
                  · rw [if_neg c37] at H
                    exact absurd H (by simp)
              · rw [if_neg c28] at H
                exact absurd H (by simp)
            · rw [if_neg c27] at H
              exact absurd H (by simp)
          · rw [if_neg c26] at H
            have c26b0 : (a0_0 == 7) = false := beq_eq_false_iff_ne.mpr c26
            have c26b1 : (a0_0 != 7) = true := bne_iff_ne.mpr c26
            by_cases c46 : a0_0 = 8
            · rw [if_pos c46] at H
              have c46b0 : (a0_0 == 8) = true := beq_iff_eq.mpr c46
              have c46b1 : (a0_0 != 8) = false := bne_eq_false_iff_eq.mpr c46
              clear c46
              by_cases c47 : 0 < (l0_1.length : Int)
              · rw [if_pos c47] at H
                have c47b0 : decide (0 < (l0_1.length : Int)) = true := decide_eq_true c47
                have c47b1 : decide (0 < l0_1.length) = true := decide_eq_true (by omega)
                clear c47
                by_cases c48 : 1 < (l0_1.length : Int)
                · rw [if_pos c48] at H
                  have c48b0 : decide (1 < (l0_1.length : Int)) = true := decide_eq_true c48
                  have c48b1 : decide (1 < l0_1.length) = true := decide_eq_true (by omega)
                  clear c48
                  by_cases c49 : (rdOf ByteArray.empty l0_1 0).toList = (rdOf ByteArray.empty l0_1 1).toList
                  · rw [if_pos c49] at H
                    have c49b0 : ((rdOf ByteArray.empty l0_1 0).toList == (rdOf ByteArray.empty l0_1 1).toList) = true := beq_iff_eq.mpr c49
                    have c49b1 : ((rdOf ByteArray.empty l0_1 0).toList != (rdOf ByteArray.empty l0_1 1).toList) = false := bne_eq_false_iff_eq.mpr c49
                    clear c49
                    obtain rfl := Option.some.inj H
                    have p316 : 0 ≤ (0 : Int) := (by omega)
                    have q316 : 0 < (l0_1.length : Int) := of_decide_eq_true (by first | (with_reducible assumption) | assumption)
                    obtain ⟨ad316, e316, hx316_0⟩ := Kd.at_string HR0_1.out 0 p316 q316
                    cases e316
                    have qi316 : (0 < l0_1.length) = True := eq_true (by omega)
                    (try rw [show ((0 : Int)).toNat = 0 from rfl] at hx316_0)
                    (try rw [Addr.add_zero'] at hx316_0)
                    replace hx316_0 := (HB.out.cell (World.block_lt_of_cell? w _ hx316_0)).trans hx316_0
                    replace p316 := eq_true p316
                    replace q316 := eq_true q316
                    have p317 : 0 ≤ (1 : Int) := (by omega)
                    have q317 : 1 < (l0_1.length : Int) := of_decide_eq_true (by first | (with_reducible assumption) | assumption)
                    obtain ⟨ad317, e317, hx317_0⟩ := Kd.at_string HR0_1.out 1 p317 q317
                    obtain rfl : ad316 = ad317 := (by injection e317)
                    (try simp only [show (1 : Int).toNat = 1 from rfl, Nat.reduceMul, Nat.reduceEqDiff, Go.Addr.add, ↓reduceIte] at hx317_0)
                    have qi317 : (1 < l0_1.length) = True := eq_true (by omega)
                    (try rw [show ((1 : Int)).toNat = 1 from rfl] at hx317_0)
                    replace hx317_0 := (HB.out.cell (World.block_lt_of_cell? w _ hx317_0)).trans hx317_0
                    replace p317 := eq_true p317
                    replace q317 := eq_true q317
                    have p318 : 0 ≤ (0 : Int) := (by omega)
                    have q318 : 0 < (l0_1.length : Int) := of_decide_eq_true (by first | (with_reducible assumption) | assumption)
                    obtain ⟨ad318, e318, hx318_0⟩ := Kd.at_string HR0_1.out 0 p318 q318
                    obtain rfl : ad316 = ad318 := (by injection e318)
                    have qi318 : (0 < l0_1.length) = True := eq_true (by omega)
                    (try rw [show ((0 : Int)).toNat = 0 from rfl] at hx318_0)
                    (try rw [Addr.add_zero'] at hx318_0)
                    replace hx318_0 := (HB.out.cell (World.block_lt_of_cell? w _ hx318_0)).trans hx318_0
                    replace p318 := eq_true p318
                    replace q318 := eq_true q318
                    go_wp2
                    repeat (go_quiet (fail); try go_wp2)
                    go_ret
                    exact ⟨by first | rfl | (simp [errW_none, errW_some] <;> rfl) | (simp [*, errW_none, errW_some] <;> rfl), by repeat (first | (with_reducible first | exact HB.out | apply below_alloc | apply pw_below_drewN | apply below_drew1 | refine below_set ?_ GE300.out) | exact HB.out)⟩
                  · rw [if_neg c49] at H
                    have c49b0 : ((rdOf ByteArray.empty l0_1 0).toList == (rdOf ByteArray.empty l0_1 1).toList) = false := beq_eq_false_iff_ne.mpr c49
                    have c49b1 : ((rdOf ByteArray.empty l0_1 0).toList != (rdOf ByteArray.empty l0_1 1).toList) = true := bne_iff_ne.mpr c49
                    by_cases c50 : 1 + (rdOf ByteArray.empty l0_1 0).size ≤ 9223372036854775807
                    · rw [if_pos c50] at H
                      have c50b0 := eq_true c50
                      have c50b1 : decide (1 + (rdOf ByteArray.empty l0_1 0).size ≤ 9223372036854775807) = true := decide_eq_true c50
                      try have c50b2 : (9223372036854775807 < 1 + (rdOf ByteArray.empty l0_1 0).size) = False := eq_false (Nat.not_lt.2 c50)
                      by_cases c51 : ((⟨#[91]⟩ : ByteArray) ++ (rdOf ByteArray.empty l0_1 0)).size + 2 ≤ 9223372036854775807
                      · rw [if_pos c51] at H
                        have c51b0 := eq_true c51
                        have c51b1 : decide (((⟨#[91]⟩ : ByteArray) ++ (rdOf ByteArray.empty l0_1 0)).size + 2 ≤ 9223372036854775807) = true := decide_eq_true c51
                        try have c51b2 : (9223372036854775807 < ((⟨#[91]⟩ : ByteArray) ++ (rdOf ByteArray.empty l0_1 0)).size + 2) = False := eq_false (Nat.not_lt.2 c51)
                        by_cases c52 : (((⟨#[91]⟩ : ByteArray) ++ (rdOf ByteArray.empty l0_1 0)) ++ (⟨#[44, 32]⟩ : ByteArray)).size + (rdOf ByteArray.empty l0_1 1).size ≤ 9223372036854775807
                        · rw [if_pos c52] at H
                          have c52b0 := eq_true c52
                          have c52b1 : decide ((((⟨#[91]⟩ : ByteArray) ++ (rdOf ByteArray.empty l0_1 0)) ++ (⟨#[44, 32]⟩ : ByteArray)).size + (rdOf ByteArray.empty l0_1 1).size ≤ 9223372036854775807) = true := decide_eq_true c52
                          try have c52b2 : (9223372036854775807 < (((⟨#[91]⟩ : ByteArray) ++ (rdOf ByteArray.empty l0_1 0)) ++ (⟨#[44, 32]⟩ : ByteArray)).size + (rdOf ByteArray.empty l0_1 1).size) = False := eq_false (Nat.not_lt.2 c52)
                          by_cases c53 : ((((⟨#[91]⟩ : ByteArray) ++ (rdOf ByteArray.empty l0_1 0)) ++ (⟨#[44, 32]⟩ : ByteArray)) ++ (rdOf ByteArray.empty l0_1 1)).size + 1 ≤ 9223372036854775807
                          · rw [if_pos c53] at H
                            have c53b0 := eq_true c53
                            have c53b1 : decide (((((⟨#[91]⟩ : ByteArray) ++ (rdOf ByteArray.empty l0_1 0)) ++ (⟨#[44, 32]⟩ : ByteArray)) ++ (rdOf ByteArray.empty l0_1 1)).size + 1 ≤ 9223372036854775807) = true := decide_eq_true c53
                            try have c53b2 : (9223372036854775807 < ((((⟨#[91]⟩ : ByteArray) ++ (rdOf ByteArray.empty l0_1 0)) ++ (⟨#[44, 32]⟩ : ByteArray)) ++ (rdOf ByteArray.empty l0_1 1)).size + 1) = False := eq_false (Nat.not_lt.2 c53)
                            obtain rfl := Option.some.inj H
                            have p316 : 0 ≤ (0 : Int) := (by omega)
                            have q316 : 0 < (l0_1.length : Int) := of_decide_eq_true (by first | (with_reducible assumption) | assumption)
                            obtain ⟨ad316, e316, hx316_0⟩ := Kd.at_string HR0_1.out 0 p316 q316
                            cases e316
                            have qi316 : (0 < l0_1.length) = True := eq_true (by omega)
                            (try rw [show ((0 : Int)).toNat = 0 from rfl] at hx316_0)
                            (try rw [Addr.add_zero'] at hx316_0)
                            replace hx316_0 := (HB.out.cell (World.block_lt_of_cell? w _ hx316_0)).trans hx316_0
                            replace p316 := eq_true p316
                            replace q316 := eq_true q316
                            have p317 : 0 ≤ (1 : Int) := (by omega)
                            have q317 : 1 < (l0_1.length : Int) := of_decide_eq_true (by first | (with_reducible assumption) | assumption)
                            obtain ⟨ad317, e317, hx317_0⟩ := Kd.at_string HR0_1.out 1 p317 q317
                            obtain rfl : ad316 = ad317 := (by injection e317)
                            (try simp only [show (1 : Int).toNat = 1 from rfl, Nat.reduceMul, Nat.reduceEqDiff, Go.Addr.add, ↓reduceIte] at hx317_0)
                            have qi317 : (1 < l0_1.length) = True := eq_true (by omega)
                            (try rw [show ((1 : Int)).toNat = 1 from rfl] at hx317_0)
                            replace hx317_0 := (HB.out.cell (World.block_lt_of_cell? w _ hx317_0)).trans hx317_0
                            replace p317 := eq_true p317
                            replace q317 := eq_true q317
                            have p319 : 0 ≤ (0 : Int) := (by omega)
                            have q319 : 0 < (l0_1.length : Int) := of_decide_eq_true (by first | (with_reducible assumption) | assumption)
                            obtain ⟨ad319, e319, hx319_0⟩ := Kd.at_string HR0_1.out 0 p319 q319
                            obtain rfl : ad316 = ad319 := (by injection e319)
                            have qi319 : (0 < l0_1.length) = True := eq_true (by omega)
                            (try rw [show ((0 : Int)).toNat = 0 from rfl] at hx319_0)
                            (try rw [Addr.add_zero'] at hx319_0)
                            replace hx319_0 := (HB.out.cell (World.block_lt_of_cell? w _ hx319_0)).trans hx319_0
                            replace p319 := eq_true p319
                            replace q319 := eq_true q319
                            have p320 : 0 ≤ (1 : Int) := (by omega)
                            have q320 : 1 < (l0_1.length : Int) := of_decide_eq_true (by first | (with_reducible assumption) | assumption)
                            obtain ⟨ad320, e320, hx320_0⟩ := Kd.at_string HR0_1.out 1 p320 q320
                            obtain rfl : ad316 = ad320 := (by injection e320)
                            (try simp only [show (1 : Int).toNat = 1 from rfl, Nat.reduceMul, Nat.reduceEqDiff, Go.Addr.add, ↓reduceIte] at hx320_0)
                            have qi320 : (1 < l0_1.length) = True := eq_true (by omega)
                            (try rw [show ((1 : Int)).toNat = 1 from rfl] at hx320_0)
                            replace hx320_0 := (HB.out.cell (World.block_lt_of_cell? w _ hx320_0)).trans hx320_0
                            replace p320 := eq_true p320
                            replace q320 := eq_true q320
                            have g51 : (9223372036854775807 < 1 + (rdOf ByteArray.empty l0_1 0).size + 2) = False := eq_false (by have h := c51; simp only [ByteArray.size_append] at h; have e : (⟨#[91]⟩ : ByteArray).size = 1 := rfl; have e2 : (⟨#[44, 32]⟩ : ByteArray).size = 2 := rfl; omega)
                            have g52 : (9223372036854775807 < 1 + (rdOf ByteArray.empty l0_1 0).size + 2 + (rdOf ByteArray.empty l0_1 1).size) = False := eq_false (by have h := c52; simp only [ByteArray.size_append] at h; have e : (⟨#[91]⟩ : ByteArray).size = 1 := rfl; have e2 : (⟨#[44, 32]⟩ : ByteArray).size = 2 := rfl; omega)
                            have g53 : (9223372036854775807 < 1 + (rdOf ByteArray.empty l0_1 0).size + 2 + (rdOf ByteArray.empty l0_1 1).size + 1) = False := eq_false (by have h := c53; simp only [ByteArray.size_append] at h; have e : (⟨#[91]⟩ : ByteArray).size = 1 := rfl; have e2 : (⟨#[44, 32]⟩ : ByteArray).size = 2 := rfl; omega)
                            go_wp2
                            repeat (go_quiet (fail); try go_wp2)
                            go_ret
                            exact ⟨by first | rfl | (simp [errW_none, errW_some] <;> rfl) | (simp [*, errW_none, errW_some] <;> rfl), by repeat (first | (with_reducible first | exact HB.out | apply below_alloc | apply pw_below_drewN | apply below_drew1 | refine below_set ?_ GE300.out) | exact HB.out)⟩
                          · rw [if_neg c53] at H
                            exact absurd H (by simp)
                        · rw [if_neg c52] at H
                          exact absurd H (by simp)
                      · rw [if_neg c51] at H
                        exact absurd H (by simp)
                    · rw [if_neg c50] at H
                      exact absurd H (by simp)
                · rw [if_neg c48] at H
                  exact absurd H (by simp)
              · rw [if_neg c47] at H
                exact absurd H (by simp)
            · rw [if_neg c46] at H
              have c46b0 : (a0_0 == 8) = false := beq_eq_false_iff_ne.mpr c46
              have c46b1 : (a0_0 != 8) = true := bne_iff_ne.mpr c46
              by_cases c54 : 0 < (l0_1.length : Int)
              · rw [if_pos c54] at H
                have c54b0 : decide (0 < (l0_1.length : Int)) = true := decide_eq_true c54
                have c54b1 : decide (0 < l0_1.length) = true := decide_eq_true (by omega)
                clear c54
                obtain rfl := Option.some.inj H
                have p321 : 0 ≤ (0 : Int) := (by omega)
                have q321 : 0 < (l0_1.length : Int) := of_decide_eq_true (by first | (with_reducible assumption) | assumption)
                obtain ⟨ad321, e321, hx321_0⟩ := Kd.at_string HR0_1.out 0 p321 q321
                cases e321
                have qi321 : (0 < l0_1.length) = True := eq_true (by omega)
                (try rw [show ((0 : Int)).toNat = 0 from rfl] at hx321_0)
                (try rw [Addr.add_zero'] at hx321_0)
                replace hx321_0 := (HB.out.cell (World.block_lt_of_cell? w _ hx321_0)).trans hx321_0
                replace p321 := eq_true p321
                replace q321 := eq_true q321
                go_wp2
                repeat (go_quiet (fail); try go_wp2)
                go_ret
                exact ⟨by first | rfl | (simp [errW_none, errW_some] <;> rfl) | (simp [*, errW_none, errW_some] <;> rfl), by repeat (first | (with_reducible first | exact HB.out | apply below_alloc | apply pw_below_drewN | apply below_drew1 | refine below_set ?_ GE300.out) | exact HB.out)⟩
              · rw [if_neg c54] at H
                exact absurd H (by simp)

/-! ### spec_blocked: function 16 -/
def spec_blocked.f (a0 : Int) : Option (Bool) := if a0 = 1 then (some false) else (if a0 = 2 then (some false) else (some (a0 != 3)))
set_option maxHeartbeats 8000000 in
set_option maxRecDepth 100000 in
theorem spec_blocked.calls (a0 : Int) (r : Bool) (w : World) (h : spec_blocked.f a0 = some r) :
    Calls Tryd.prog 16 #[.int .i64 a0] w fun e w' => e = .returned (.bool r) ∧ Drawn0 w w' := by
  have H : (if a0 = 1 then (some false) else (if a0 = 2 then (some false) else (some (a0 != 3)))) = some r := h
  clear h
  by_cases c2 : a0 = 1
  · rw [if_pos c2] at H
    have c2b0 : (a0 == 1) = true := beq_iff_eq.mpr c2
    have c2b1 : (a0 != 1) = false := bne_eq_false_iff_eq.mpr c2
    clear c2
    obtain rfl := Option.some.inj H
    go_enter Tryd.func16, Tryd.ntmps16
    go_wp2
    go_ret
    exact ⟨by first | rfl | (simp; done) | (simp [*]; done), by repeat (first | exact Drawn0.refl _ | apply Drawn0.step)⟩
  · rw [if_neg c2] at H
    have c2b0 : (a0 == 1) = false := beq_eq_false_iff_ne.mpr c2
    have c2b1 : (a0 != 1) = true := bne_iff_ne.mpr c2
    by_cases c3 : a0 = 2
    · rw [if_pos c3] at H
      have c3b0 : (a0 == 2) = true := beq_iff_eq.mpr c3
      have c3b1 : (a0 != 2) = false := bne_eq_false_iff_eq.mpr c3
      clear c3
      obtain rfl := Option.some.inj H
      go_enter Tryd.func16, Tryd.ntmps16
      go_wp2
      go_ret
      exact ⟨by first | rfl | (simp; done) | (simp [*]; done), by repeat (first | exact Drawn0.refl _ | apply Drawn0.step)⟩
    · rw [if_neg c3] at H
      have c3b0 : (a0 == 2) = false := beq_eq_false_iff_ne.mpr c3
      have c3b1 : (a0 != 2) = true := bne_iff_ne.mpr c3
      obtain rfl := Option.some.inj H
      go_enter Tryd.func16, Tryd.ntmps16
      go_wp2
      go_ret
      exact ⟨by first | rfl | (simp; done) | (simp [*]; done), by repeat (first | exact Drawn0.refl _ | apply Drawn0.step)⟩

end Go.Proofs.YtikgnlgmidbclaaDoor.PFnModulePath
