/- The walk of spec.FileOk: it answers a bool; a yes says that there are at most 30 entries, the first one a module, and that each fits. Conditions: fields of at most 2^47 - 4096 bytes. -/
import Derived.Test.YtikgnlgmidbclaaDoorF2
import Derived.Test.YtikgnlgmidbclaaDoorO5
namespace Go.Proofs.YtikgnlgmidbclaaDoor.Plain
set_option linter.unusedVariables false
set_option linter.unusedSimpArgs false
open Go.RowKit Go.Proofs.YtikgnlgmidbclaaDoor.PFnModulePath Go.Proofs.YtikgnlgmidbclaaDoorW.PrintWords Go.Proofs.YtikgnlgmidbclaaDoorW.PrintLast Go.Proofs.YtikgnlgmidbclaaDoorW.PrintMore

/-- What a yes of FileOk says. -/
def FileGood (l : List S29) : Prop := 0 < l.length ∧ l.length ≤ 30 ∧ (rd_T29 l 0).f0 = 1 ∧ ∀ i : Nat, i < l.length → Fit (rd_T29 l i) ∧ (rd_T29 l i).f0 ≠ 11
def FilePost (l : List S29) (w : World) (e : Ending) (w' : World) : Prop := ∃ b, e = .returned (.bool b) ∧ (b = true → FileGood l) ∧ Below w.heap.size w w'
theorem post_no {l : List S29} {w w' : World} (h : Below w.heap.size w w') : FilePost l w (.returned (.bool false)) w' := ⟨false, rfl, (fun h => by cases h), h⟩

theorem take22 (A : Option Addr) (n c : Nat) (i : Int) (h0 : 0 ≤ i) (hm : i ≤ c) (W : World) : (Instr.slice 22 (.slice A n c) none (some (.int .i64 i)) none).run Tryd.prog W = .ok (.slice A i.toNat c) W := by
  obtain ⟨i0, hi0, _, hsz, _⟩ := info_parts info29
  have hel : Tryd.prog.elem 22 = 29 := by simp [Program.elem, Tryd.underlying22]
  have hu : Tryd.prog.underlying 22 = some (.slice (Tryd.prog.elem 22)) := by rw [hel]; exact Tryd.underlying22
  have ha : (A.map fun x => x.add 0) = A := by cases A <;> simp [Addr.add]
  rw [run_slice_h W 22 A n c hu .i64 i h0 hm, hel]
  simp [sizeOf, typeInfo, hi0, hsz, sliced, Result.andThen]
  intro _
  exact ha

set_option maxHeartbeats 8000000 in
set_option maxRecDepth 100000 in
theorem file_walk (l : List S29) (A : Option Addr) (c : Nat) (w : World) (hr : Kd.C k29 w A l.length l) (hc : l.length ≤ c) (hs : ∀ i : Nat, i < l.length → Sized (rd_T29 l i).f1) (hl : l.length ≤ 140737488351232) :
    Calls Tryd.prog 5 #[.slice A l.length c] w (FilePost l w) := by
  have hu29 := Tryd.underlying29
  have HR := Aside0.mk hr
  have HC := Aside0.mk hc
  have HS := Aside0.mk hs
  clear hr hc hs
  have HB := Aside0.mk (Below.refl w.heap.size w)
  by_cases h0 : l.length = 0
  · have z0 : ((l.length : Int) == 0) = true := beq_iff_eq.mpr (by omega)
    have z1 : (l.length == 0) = true := beq_iff_eq.mpr h0
    obtain rfl : l = [] := List.length_eq_zero_iff.1 h0
    clear h0
    go_enter Tryd.func5, Tryd.ntmps5
    go_wp2
    go_ret
    exact post_no HB.out
  have z0 : ((l.length : Int) == 0) = false := beq_eq_false_iff_ne.mpr (by omega)
  have z2 : ¬ (l = []) := fun h => h0 (by rw [h]; rfl)
  by_cases h30 : 30 < l.length
  · have g0 : decide (30 < (l.length : Int)) = true := decide_eq_true (by omega)
    have g1 : decide (30 < l.length) = true := decide_eq_true h30
    clear h0 h30
    go_enter Tryd.func5, Tryd.ntmps5
    go_wp2
    go_ret
    exact post_no HB.out
  have g0 : decide (30 < (l.length : Int)) = false := decide_eq_false (by omega)
  have g1 : decide (30 < l.length) = false := decide_eq_false h30
  have HL : Aside0 (0 < l.length ∧ l.length ≤ 30) := ⟨by omega⟩
  clear hl
  obtain ⟨ad, A0, c0, eA, hx0, hx1, hx2, hl0, hi0⟩ := at_T29 HR.out 0 (by omega) (by omega)
  subst eA
  rw [show ((0 : Int)).toNat = 0 from rfl, Nat.zero_mul, Addr.add_zero'] at hx0 hx1 hx2
  have hpos : (0 < l.length) = True := eq_true (by omega)
  have hposI : (0 < (l.length : Int)) = True := eq_true (by omega)
  clear h0 h30
  by_cases hk0 : (rd_T29 l 0).f0 = 1
  case neg =>
    have k0 : ((rd_T29 l 0).f0 != 1) = true := bne_iff_ne.mpr hk0
    have k1 : ((rd_T29 l 0).f0 == 1) = false := beq_eq_false_iff_ne.mpr hk0
    clear hk0
    go_enter Tryd.func5, Tryd.ntmps5
    go_wp2
    go_ret
    exact post_no HB.out
  have k0 : ((rd_T29 l 0).f0 != 1) = false := bne_eq_false_iff_eq.mpr hk0
  have k1 : ((rd_T29 l 0).f0 == 1) = true := beq_iff_eq.mpr hk0
  have HK0 := Aside0.mk hk0
  clear hk0
  have HI0 := Aside0.mk hi0
  have HX := Aside0.mk (And.intro hx0 (And.intro hx1 hx2))
  clear hi0
  have S0 : Aside0 (∀ j : Nat, (j : Int) < 0 → Fit (rd_T29 l j) ∧ (rd_T29 l j).f0 ≠ 11) := ⟨fun j h => by omega⟩
  go_enter Tryd.func5, Tryd.ntmps5
  go_wp2
  go_loopg [24] 100 (fun kq v24 w' => ∃ (wr : World) (i : Int), wr = w' ∧ v24 = .int .i64 i ∧ Aside0 (0 ≤ i ∧ i ≤ (l.length : Int)) ∧ Aside0 (kq = 100 - i.toNat) ∧ Aside0 (∀ j : Nat, (j : Int) < i → Fit (rd_T29 l j) ∧ (rd_T29 l j).f0 ≠ 11) ∧ Aside0 (Below w.heap.size w wr))
  case atStart => exact ⟨_, 0, rfl, rfl, ⟨Int.le_refl _, by omega⟩, ⟨rfl⟩, S0, HB⟩
  case round =>
    clear S0 HB z0 g0 g1 k0 k1 hx0 hx1 hx2
    obtain ⟨wr, i, rfl, rfl, HI, HKQ, HF, HB⟩ := hrel
    by_cases hlt : i < (l.length : Int)
    case neg =>
      have b0 : decide (i < (l.length : Int)) = false := decide_eq_false hlt
      have FG : Aside0 (FileGood l) := ⟨HL.out.1, HL.out.2, HK0.out, fun j hj => HF.out j (by have := HI.out; omega)⟩
      clear hlt
      go_wp2
      go_ret
      exact ⟨true, rfl, fun _ => FG.out, HB.out⟩
    have b0 : decide (i < (l.length : Int)) = true := decide_eq_true hlt
    have p6 : (0 ≤ i) = True := eq_true HI.out.1
    have q6 : (i < (l.length : Int)) = True := eq_true hlt
    obtain ⟨ad', A1, c1, eA, hy0, hy1, hy2, hl1, hi1⟩ := at_T29 HR.out i HI.out.1 hlt
    obtain rfl : ad = ad' := by injection eA
    have HLT := Aside0.mk hlt
    clear hlt
    have HI1 := Aside0.mk hi1
    have HC1 := Aside0.mk hl1
    clear hi1 hl1
    have HSZ : Aside0 (Sized (rd_T29 l i).f1) := ⟨by have := HS.out i.toNat (by have := HI.out; have := HLT.out; omega); rwa [show ((i.toNat : Nat) : Int) = i from by have := HI.out; omega] at this⟩
    have hw0 := hy0
    replace hy0 := (HB.out.cell (World.block_lt_of_cell? w _ hy0)).trans hy0
    replace hy1 := (HB.out.cell (World.block_lt_of_cell? w _ hy1)).trans hy1
    replace hy2 := (HB.out.cell (World.block_lt_of_cell? w _ hy2)).trans hy2
    clear hw0
    cases eb : entryB (rd_T29 l i).f0 (rd_T29 l i).f1 (rd_T29 l i).f2
    case false =>
      go_wp2_with (first | ((with_reducible refine gate_dst (N := 4) rfl ?_); refine box_event ?hg (N := 4) ?hd (cs := #[.int .i64 0, .slice none 0 0, .bool false]) (t := 29) ?hr ?_; (case hd => rfl); (case hg => rfl); (case hr => first | (go_simp; done) | (go_simp; rfl)); intro gb hg w7 hbox hb; have n0_ := Aside0.mk (below_step (by repeat (first | (with_reducible first | exact HB.out | apply below_alloc | apply pw_below_drewN | apply below_drew1) | exact HB.out)) hb); have BK := Aside0.mk (hbox); have GE := Aside0.mk ((by rw [hg]; exact (below_size (by repeat (first | (with_reducible first | exact HB.out | apply below_alloc | apply pw_below_drewN | apply below_drew1) | exact HB.out)))) : w.heap.size ≤ gb);  clear HB; have HB := n0_; clear n0_; clear hb hbox hg; have hzgb_0 : w7.cell? ⟨gb, 0, none⟩ = some (.int .i64 0) := (blk_cell BK.out 0).trans rfl; have hzgb_1 : w7.cell? ⟨gb, 1, none⟩ = some (.slice none 0 0) := (blk_cell BK.out 1).trans rfl; have hzgb_2 : w7.cell? ⟨gb, 2, none⟩ = some (.bool false) := (blk_cell BK.out 2).trans rfl; have hzgbf_0 := blk_frozen BK.out 0; have hzgbf_1 := blk_frozen BK.out 1; have hzgbf_2 := blk_frozen BK.out 2) | (go_at_call 10; (with_reducible refine (entry_calls _ _ _ _ _ _ ?s1 ?s2 ?s3).mono ?_); (case s1 => exact Kd.C_below HI1.out (by repeat (first | (with_reducible first | exact HB.out | apply below_alloc | apply pw_below_drewN | apply below_drew1 | refine below_set ?_ GE.out) | exact HB.out))); (case s2 => exact HC1.out); (case s3 => exact HSZ.out); rintro e w9 ⟨rfl, hb9⟩; have BK9 := Aside0.mk (blk_below (g := gb) (o := .cells #[.int .i64 (rd_T29 l i).f0, .slice A1 (rd_T29 l i).f1.length c1, .bool (rd_T29 l i).f2] 29 (0, 0)) (by (with_reducible repeat (first | refine blk_drewN ?_ _ | refine blk_drew ?_ | refine blk_alloc ?_ _)); refine blk_put (cs := #[.int .i64 (rd_T29 l i).f0, .slice A1 (rd_T29 l i).f1.length c1, .bool false]) ?_ 2 _ rfl; (with_reducible repeat (first | refine blk_drewN ?_ _ | refine blk_drew ?_ | refine blk_alloc ?_ _)); refine blk_put (cs := #[.int .i64 (rd_T29 l i).f0, .slice none 0 0, .bool false]) ?_ 1 _ rfl; (with_reducible repeat (first | refine blk_drewN ?_ _ | refine blk_drew ?_ | refine blk_alloc ?_ _)); refine blk_put (cs := #[.int .i64 0, .slice none 0 0, .bool false]) ?_ 0 _ rfl; (with_reducible repeat (first | refine blk_drewN ?_ _ | refine blk_drew ?_ | refine blk_alloc ?_ _)); exact BK.out) hb9); have n9_ := Aside0.mk (below_step (by repeat (first | (with_reducible first | exact HB.out | apply below_alloc | apply pw_below_drewN | apply below_drew1 | refine below_set ?_ GE.out) | exact HB.out)) hb9); clear HB BK; have HB := n9_; have BK := BK9; clear n9_ BK9 hb9; have hc9_0 : w9.cell? ⟨gb, 0, none⟩ = some (.int .i64 (rd_T29 l i).f0) := (blk_cell BK.out 0).trans rfl; have hc9_1 : w9.cell? ⟨gb, 1, none⟩ = some (.slice A1 (rd_T29 l i).f1.length c1) := (blk_cell BK.out 1).trans rfl; have hc9_2 : w9.cell? ⟨gb, 2, none⟩ = some (.bool (rd_T29 l i).f2) := (blk_cell BK.out 2).trans rfl; have hf9_0 := blk_frozen BK.out 0; have hf9_1 := blk_frozen BK.out 1; have hf9_2 := blk_frozen BK.out 2))
      go_ret
      exact post_no HB.out
    case true =>
      have FT := Aside0.mk (entry_fit (rd_T29 l i) HSZ.out eb)
      by_cases h11 : (rd_T29 l i).f0 = 11
      · have m0 : ((rd_T29 l i).f0 == 11) = true := beq_iff_eq.mpr h11
        clear h11
        go_wp2_with (first | ((with_reducible refine gate_dst (N := 4) rfl ?_); refine box_event ?hg (N := 4) ?hd (cs := #[.int .i64 0, .slice none 0 0, .bool false]) (t := 29) ?hr ?_; (case hd => rfl); (case hg => rfl); (case hr => first | (go_simp; done) | (go_simp; rfl)); intro gb hg w7 hbox hb; have n0_ := Aside0.mk (below_step (by repeat (first | (with_reducible first | exact HB.out | apply below_alloc | apply pw_below_drewN | apply below_drew1) | exact HB.out)) hb); have BK := Aside0.mk (hbox); have GE := Aside0.mk ((by rw [hg]; exact (below_size (by repeat (first | (with_reducible first | exact HB.out | apply below_alloc | apply pw_below_drewN | apply below_drew1) | exact HB.out)))) : w.heap.size ≤ gb);  clear HB; have HB := n0_; clear n0_; clear hb hbox hg; have hzgb_0 : w7.cell? ⟨gb, 0, none⟩ = some (.int .i64 0) := (blk_cell BK.out 0).trans rfl; have hzgb_1 : w7.cell? ⟨gb, 1, none⟩ = some (.slice none 0 0) := (blk_cell BK.out 1).trans rfl; have hzgb_2 : w7.cell? ⟨gb, 2, none⟩ = some (.bool false) := (blk_cell BK.out 2).trans rfl; have hzgbf_0 := blk_frozen BK.out 0; have hzgbf_1 := blk_frozen BK.out 1; have hzgbf_2 := blk_frozen BK.out 2) | (go_at_call 10; (with_reducible refine (entry_calls _ _ _ _ _ _ ?s1 ?s2 ?s3).mono ?_); (case s1 => exact Kd.C_below HI1.out (by repeat (first | (with_reducible first | exact HB.out | apply below_alloc | apply pw_below_drewN | apply below_drew1 | refine below_set ?_ GE.out) | exact HB.out))); (case s2 => exact HC1.out); (case s3 => exact HSZ.out); rintro e w9 ⟨rfl, hb9⟩; have BK9 := Aside0.mk (blk_below (g := gb) (o := .cells #[.int .i64 (rd_T29 l i).f0, .slice A1 (rd_T29 l i).f1.length c1, .bool (rd_T29 l i).f2] 29 (0, 0)) (by (with_reducible repeat (first | refine blk_drewN ?_ _ | refine blk_drew ?_ | refine blk_alloc ?_ _)); refine blk_put (cs := #[.int .i64 (rd_T29 l i).f0, .slice A1 (rd_T29 l i).f1.length c1, .bool false]) ?_ 2 _ rfl; (with_reducible repeat (first | refine blk_drewN ?_ _ | refine blk_drew ?_ | refine blk_alloc ?_ _)); refine blk_put (cs := #[.int .i64 (rd_T29 l i).f0, .slice none 0 0, .bool false]) ?_ 1 _ rfl; (with_reducible repeat (first | refine blk_drewN ?_ _ | refine blk_drew ?_ | refine blk_alloc ?_ _)); refine blk_put (cs := #[.int .i64 0, .slice none 0 0, .bool false]) ?_ 0 _ rfl; (with_reducible repeat (first | refine blk_drewN ?_ _ | refine blk_drew ?_ | refine blk_alloc ?_ _)); exact BK.out) hb9); have n9_ := Aside0.mk (below_step (by repeat (first | (with_reducible first | exact HB.out | apply below_alloc | apply pw_below_drewN | apply below_drew1 | refine below_set ?_ GE.out) | exact HB.out)) hb9); clear HB BK; have HB := n9_; have BK := BK9; clear n9_ BK9 hb9; have hc9_0 : w9.cell? ⟨gb, 0, none⟩ = some (.int .i64 (rd_T29 l i).f0) := (blk_cell BK.out 0).trans rfl; have hc9_1 : w9.cell? ⟨gb, 1, none⟩ = some (.slice A1 (rd_T29 l i).f1.length c1) := (blk_cell BK.out 1).trans rfl; have hc9_2 : w9.cell? ⟨gb, 2, none⟩ = some (.bool (rd_T29 l i).f2) := (blk_cell BK.out 2).trans rfl; have hf9_0 := blk_frozen BK.out 0; have hf9_1 := blk_frozen BK.out 1; have hf9_2 := blk_frozen BK.out 2))
        go_ret
        exact post_no HB.out
      have m0 : ((rd_T29 l i).f0 == 11) = false := beq_eq_false_iff_ne.mpr h11
      have H11 := Aside0.mk h11
      clear h11
      by_cases hi1 : 0 < i ∧ (rd_T29 l i).f0 = 1
      · obtain ⟨hi1, hk1⟩ := hi1
        have m1 : decide (0 < i) = true := decide_eq_true hi1
        have m2 : ((rd_T29 l i).f0 == 1) = true := beq_iff_eq.mpr hk1
        clear hi1 hk1
        go_wp2_with (first | ((with_reducible refine gate_dst (N := 4) rfl ?_); refine box_event ?hg (N := 4) ?hd (cs := #[.int .i64 0, .slice none 0 0, .bool false]) (t := 29) ?hr ?_; (case hd => rfl); (case hg => rfl); (case hr => first | (go_simp; done) | (go_simp; rfl)); intro gb hg w7 hbox hb; have n0_ := Aside0.mk (below_step (by repeat (first | (with_reducible first | exact HB.out | apply below_alloc | apply pw_below_drewN | apply below_drew1) | exact HB.out)) hb); have BK := Aside0.mk (hbox); have GE := Aside0.mk ((by rw [hg]; exact (below_size (by repeat (first | (with_reducible first | exact HB.out | apply below_alloc | apply pw_below_drewN | apply below_drew1) | exact HB.out)))) : w.heap.size ≤ gb);  clear HB; have HB := n0_; clear n0_; clear hb hbox hg; have hzgb_0 : w7.cell? ⟨gb, 0, none⟩ = some (.int .i64 0) := (blk_cell BK.out 0).trans rfl; have hzgb_1 : w7.cell? ⟨gb, 1, none⟩ = some (.slice none 0 0) := (blk_cell BK.out 1).trans rfl; have hzgb_2 : w7.cell? ⟨gb, 2, none⟩ = some (.bool false) := (blk_cell BK.out 2).trans rfl; have hzgbf_0 := blk_frozen BK.out 0; have hzgbf_1 := blk_frozen BK.out 1; have hzgbf_2 := blk_frozen BK.out 2) | (go_at_call 10; (with_reducible refine (entry_calls _ _ _ _ _ _ ?s1 ?s2 ?s3).mono ?_); (case s1 => exact Kd.C_below HI1.out (by repeat (first | (with_reducible first | exact HB.out | apply below_alloc | apply pw_below_drewN | apply below_drew1 | refine below_set ?_ GE.out) | exact HB.out))); (case s2 => exact HC1.out); (case s3 => exact HSZ.out); rintro e w9 ⟨rfl, hb9⟩; have BK9 := Aside0.mk (blk_below (g := gb) (o := .cells #[.int .i64 (rd_T29 l i).f0, .slice A1 (rd_T29 l i).f1.length c1, .bool (rd_T29 l i).f2] 29 (0, 0)) (by (with_reducible repeat (first | refine blk_drewN ?_ _ | refine blk_drew ?_ | refine blk_alloc ?_ _)); refine blk_put (cs := #[.int .i64 (rd_T29 l i).f0, .slice A1 (rd_T29 l i).f1.length c1, .bool false]) ?_ 2 _ rfl; (with_reducible repeat (first | refine blk_drewN ?_ _ | refine blk_drew ?_ | refine blk_alloc ?_ _)); refine blk_put (cs := #[.int .i64 (rd_T29 l i).f0, .slice none 0 0, .bool false]) ?_ 1 _ rfl; (with_reducible repeat (first | refine blk_drewN ?_ _ | refine blk_drew ?_ | refine blk_alloc ?_ _)); refine blk_put (cs := #[.int .i64 0, .slice none 0 0, .bool false]) ?_ 0 _ rfl; (with_reducible repeat (first | refine blk_drewN ?_ _ | refine blk_drew ?_ | refine blk_alloc ?_ _)); exact BK.out) hb9); have n9_ := Aside0.mk (below_step (by repeat (first | (with_reducible first | exact HB.out | apply below_alloc | apply pw_below_drewN | apply below_drew1 | refine below_set ?_ GE.out) | exact HB.out)) hb9); clear HB BK; have HB := n9_; have BK := BK9; clear n9_ BK9 hb9; have hc9_0 : w9.cell? ⟨gb, 0, none⟩ = some (.int .i64 (rd_T29 l i).f0) := (blk_cell BK.out 0).trans rfl; have hc9_1 : w9.cell? ⟨gb, 1, none⟩ = some (.slice A1 (rd_T29 l i).f1.length c1) := (blk_cell BK.out 1).trans rfl; have hc9_2 : w9.cell? ⟨gb, 2, none⟩ = some (.bool (rd_T29 l i).f2) := (blk_cell BK.out 2).trans rfl; have hf9_0 := blk_frozen BK.out 0; have hf9_1 := blk_frozen BK.out 1; have hf9_2 := blk_frozen BK.out 2))
        go_ret
        exact post_no HB.out
      have HM1 : Aside0 (∃ b, decide (0 < i) = b ∧ (b = true → ((rd_T29 l i).f0 == 1) = false)) := ⟨_, rfl, fun h => by
        have h_ := of_decide_eq_true h
        exact beq_eq_false_iff_ne.mpr (fun h2 => hi1 ⟨h_, h2⟩)⟩
      clear hi1
      obtain ⟨b1, m1, m2⟩ := HM1.out
      clear HM1
      cases b1
      all_goals
        (try have m3 := m2 rfl)
        clear m2
        go_upto_region 8 with (first | ((with_reducible refine gate_dst (N := 4) rfl ?_); refine box_event ?hg (N := 4) ?hd (cs := #[.int .i64 0, .slice none 0 0, .bool false]) (t := 29) ?hr ?_; (case hd => rfl); (case hg => rfl); (case hr => first | (go_simp; done) | (go_simp; rfl)); intro gb hg w7 hbox hb; have n0_ := Aside0.mk (below_step (by repeat (first | (with_reducible first | exact HB.out | apply below_alloc | apply pw_below_drewN | apply below_drew1) | exact HB.out)) hb); have BK := Aside0.mk (hbox); have GE := Aside0.mk ((by rw [hg]; exact (below_size (by repeat (first | (with_reducible first | exact HB.out | apply below_alloc | apply pw_below_drewN | apply below_drew1) | exact HB.out)))) : w.heap.size ≤ gb);  clear HB; have HB := n0_; clear n0_; clear hb hbox hg; have hzgb_0 : w7.cell? ⟨gb, 0, none⟩ = some (.int .i64 0) := (blk_cell BK.out 0).trans rfl; have hzgb_1 : w7.cell? ⟨gb, 1, none⟩ = some (.slice none 0 0) := (blk_cell BK.out 1).trans rfl; have hzgb_2 : w7.cell? ⟨gb, 2, none⟩ = some (.bool false) := (blk_cell BK.out 2).trans rfl; have hzgbf_0 := blk_frozen BK.out 0; have hzgbf_1 := blk_frozen BK.out 1; have hzgbf_2 := blk_frozen BK.out 2) | (go_at_call 10; (with_reducible refine (entry_calls _ _ _ _ _ _ ?s1 ?s2 ?s3).mono ?_); (case s1 => exact Kd.C_below HI1.out (by repeat (first | (with_reducible first | exact HB.out | apply below_alloc | apply pw_below_drewN | apply below_drew1 | refine below_set ?_ GE.out) | exact HB.out))); (case s2 => exact HC1.out); (case s3 => exact HSZ.out); rintro e w9 ⟨rfl, hb9⟩; have BK9 := Aside0.mk (blk_below (g := gb) (o := .cells #[.int .i64 (rd_T29 l i).f0, .slice A1 (rd_T29 l i).f1.length c1, .bool (rd_T29 l i).f2] 29 (0, 0)) (by (with_reducible repeat (first | refine blk_drewN ?_ _ | refine blk_drew ?_ | refine blk_alloc ?_ _)); refine blk_put (cs := #[.int .i64 (rd_T29 l i).f0, .slice A1 (rd_T29 l i).f1.length c1, .bool false]) ?_ 2 _ rfl; (with_reducible repeat (first | refine blk_drewN ?_ _ | refine blk_drew ?_ | refine blk_alloc ?_ _)); refine blk_put (cs := #[.int .i64 (rd_T29 l i).f0, .slice none 0 0, .bool false]) ?_ 1 _ rfl; (with_reducible repeat (first | refine blk_drewN ?_ _ | refine blk_drew ?_ | refine blk_alloc ?_ _)); refine blk_put (cs := #[.int .i64 0, .slice none 0 0, .bool false]) ?_ 0 _ rfl; (with_reducible repeat (first | refine blk_drewN ?_ _ | refine blk_drew ?_ | refine blk_alloc ?_ _)); exact BK.out) hb9); have n9_ := Aside0.mk (below_step (by repeat (first | (with_reducible first | exact HB.out | apply below_alloc | apply pw_below_drewN | apply below_drew1 | refine below_set ?_ GE.out) | exact HB.out)) hb9); clear HB BK; have HB := n9_; have BK := BK9; clear n9_ BK9 hb9; have hc9_0 : w9.cell? ⟨gb, 0, none⟩ = some (.int .i64 (rd_T29 l i).f0) := (blk_cell BK.out 0).trans rfl; have hc9_1 : w9.cell? ⟨gb, 1, none⟩ = some (.slice A1 (rd_T29 l i).f1.length c1) := (blk_cell BK.out 1).trans rfl; have hc9_2 : w9.cell? ⟨gb, 2, none⟩ = some (.bool (rd_T29 l i).f2) := (blk_cell BK.out 2).trans rfl; have hf9_0 := blk_frozen BK.out 0; have hf9_1 := blk_frozen BK.out 1; have hf9_2 := blk_frozen BK.out 2))
        skip
      all_goals
        go_cut [76] (fun v76 wc => ∃ b : Bool, v76 = .bool b ∧ Aside0 (wc.heap[gb]? = some (.cells #[.int .i64 (rd_T29 l i).f0, .slice A1 (rd_T29 l i).f1.length c1, .bool (rd_T29 l i).f2] 29 (0, 0))) ∧ Aside0 (Below w.heap.size w wc))
        case first =>
          by_cases h8 : (rd_T29 l i).f0 = 8
          case neg =>
            have m8 : ((rd_T29 l i).f0 == 8) = false := beq_eq_false_iff_ne.mpr h8
            clear h8
            go_quiet (fail)
            go_wp2
            go_meet
            case rel => exact ⟨_, by first | rfl | (simp; done) | (simp [*]; done), ⟨by (with_reducible repeat (first | refine blk_drewN ?_ _ | refine blk_drew ?_)); exact BK.out⟩, ⟨by repeat (first | (with_reducible first | exact HB.out | apply below_alloc | apply pw_below_drewN | apply below_drew1) | exact HB.out)⟩⟩
          have m8 : ((rd_T29 l i).f0 == 8) = true := beq_iff_eq.mpr h8
          obtain ⟨a, b, cc, hfs⟩ : ∃ a b cc, (rd_T29 l i).f1 = [a, b, cc] := by
            have h_ := FT.out
            unfold Fit at h_
            rcases h_ with h_ | h_ | h_ | h_ | h_
            · omega
            · omega
            · omega
            · omega
            · obtain ⟨_, a, b, cc, h_, _⟩ := h_; exact ⟨a, b, cc, h_⟩
          obtain ⟨p, hp, hpg⟩ : ∃ p, (rd_T29 l 0).f1 = [p] ∧ PathGood p := by
            have hi0_ : i ≠ 0 := fun h_ => by rw [h_, HK0.out] at h8; omega
            have h_ := (HF.out 0 (by have := HI.out; omega)).1
            unfold Fit at h_
            have k_ := HK0.out
            rw [show (((0 : Nat) : Int)) = 0 from rfl] at h_
            rcases h_ with h_ | h_ | h_ | h_ | h_
            · obtain ⟨_, _, p, h1_, h2_⟩ := h_; exact ⟨p, h1_, h2_⟩
            · omega
            · omega
            · omega
            · omega
          have i0_ := HI0.out
          rw [hp] at i0_
          obtain ⟨ad0, rfl, hp0⟩ := fields1 i0_
          have i1_ := HI1.out
          rw [hfs] at i1_
          obtain ⟨ad1, rfl, ha0, ha1, ha2⟩ := fields3 i1_
          have hx1 := HX.out.2.1
          replace hx1 := (HB.out.cell (World.block_lt_of_cell? w _ hx1)).trans hx1
          replace hp0 := (HB.out.cell (World.block_lt_of_cell? w _ hp0)).trans hp0
          replace ha0 := (HB.out.cell (World.block_lt_of_cell? w _ ha0)).trans ha0
          replace ha1 := (HB.out.cell (World.block_lt_of_cell? w _ ha1)).trans ha1
          have q0 : (0 < (rd_T29 l 0).f1.length) = True := eq_true (by rw [hp]; simp)
          have q0i : (0 < ((rd_T29 l 0).f1.length : Int)) = True := eq_true (by rw [hp]; simp)
          have q1 : (0 < (rd_T29 l i).f1.length) = True := eq_true (by rw [hfs]; simp)
          have q1i : (0 < ((rd_T29 l i).f1.length : Int)) = True := eq_true (by rw [hfs]; simp)
          have q2 : (1 < (rd_T29 l i).f1.length) = True := eq_true (by rw [hfs]; simp)
          have q2i : (1 < ((rd_T29 l i).f1.length : Int)) = True := eq_true (by rw [hfs]; simp)
          have HP : Aside0 (p.size ≤ 140737488351232) := ⟨by have := hpg.1; omega⟩
          clear hfs hp hpg i0_ i1_ h8
          cases e1 : verB p a
          case false =>
            go_quiet (first | (go_at_call 11; (first | (with_reducible exact ver_quiet HP.out e1 _ _) | (with_reducible exact ver_quiet HP.out e2 _ _))))
            go_wp2
            go_meet
            case rel => exact ⟨_, by first | rfl | (simp; done) | (simp [*]; done), ⟨by (with_reducible repeat (first | refine blk_drewN ?_ _ | refine blk_drew ?_)); exact BK.out⟩, ⟨by repeat (first | (with_reducible first | exact HB.out | apply below_alloc | apply pw_below_drewN | apply below_drew1) | exact HB.out)⟩⟩
          case true =>
            cases e2 : verB p b
            all_goals
              go_quiet (first | (go_at_call 11; (first | (with_reducible exact ver_quiet HP.out e1 _ _) | (with_reducible exact ver_quiet HP.out e2 _ _))))
              go_wp2
              go_meet
              case rel => exact ⟨_, by first | rfl | (simp; done) | (simp [*]; done), ⟨by (with_reducible repeat (first | refine blk_drewN ?_ _ | refine blk_drew ?_)); exact BK.out⟩, ⟨by repeat (first | (with_reducible first | exact HB.out | apply below_alloc | apply pw_below_drewN | apply below_drew1) | exact HB.out)⟩⟩
        case rest =>
          obtain ⟨b, rfl, BK, HB⟩ := hcut
          cases b
          case true =>
            go_wp2
            go_ret
            exact post_no HB.out
          case false =>
            obtain ⟨ni, hni⟩ : ∃ ni : Nat, i = (ni : Int) := ⟨i.toNat, by have := HI.out; omega⟩
            have sl : ∀ W : World, (Instr.slice 22 (.slice (some ad) l.length c) none (some (.int .i64 i)) none).run Tryd.prog W = .ok (.slice (some ad) ni c) W := fun W => by
              have h_ := take22 (some ad) l.length c i HI.out.1 (by have := HC.out; have := HLT.out; omega) W
              rwa [show i.toNat = ni from by omega] at h_
            have HNI := Aside0.mk hni
            clear hni
            have S2 : Aside0 ((0 : Int) ≤ 0 ∧ (0 : Int) ≤ (ni : Int)) := ⟨Int.le_refl _, by omega⟩
            go_wp2
            go_loopg [81] 100 (fun kq v81 w' => ∃ (wr : World) (j : Int), wr = w' ∧ v81 = .int .i64 j ∧ Aside0 (0 ≤ j ∧ j ≤ (ni : Int)) ∧ Aside0 (kq = 100 - j.toNat) ∧ Aside0 (wr.heap[gb]? = some (.cells #[.int .i64 (rd_T29 l i).f0, .slice A1 (rd_T29 l i).f1.length c1, .bool (rd_T29 l i).f2] 29 (0, 0))) ∧ Aside0 (Below w.heap.size w wr))
            case atStart => exact ⟨_, 0, rfl, rfl, S2, ⟨rfl⟩, BK, HB⟩
            case round =>
              clear S2 BK HB sl b0
              obtain ⟨wq, j, rfl, rfl, HJ, HKJ, BK, HB⟩ := hrel
              by_cases hj : j < (ni : Int)
              case neg =>
                have d0 : decide (j < (ni : Int)) = false := decide_eq_false hj
                clear hj
                go_wp2
                have W1 : Aside0 (wrap64 (i + 1) = i + 1) := ⟨by have := HI.out; have := HL.out; have := HLT.out; unfold wrap64; omega⟩
                go_roundg (100 - (i + 1).toNat)
                case measure => have := HKQ.out; have := HI.out; have := HL.out; have := HLT.out; omega
                case rel => exact ⟨_, wrap64 (i + 1), rfl, rfl, ⟨by rw [W1.out]; have := HI.out; have := HLT.out; omega⟩, ⟨by rw [W1.out]⟩, ⟨fun q hq => by
            rw [W1.out] at hq
            by_cases e_ : (q : Int) = i
            · rw [e_]; exact ⟨FT.out, H11.out⟩
            · exact HF.out q (by omega)⟩, HB⟩
              have d0 : decide (j < (ni : Int)) = true := decide_eq_true hj
              have HJL := Aside0.mk hj
              clear hj
              have r6 : (0 ≤ j) = True := eq_true HJ.out.1
              have s6 : (j < (ni : Int)) = True := eq_true HJL.out
              have W2 : Aside0 (wrap64 (j + 1) = j + 1) := ⟨by have := HJ.out; have := HJL.out; have := HI.out; have := HL.out; have := HLT.out; have := HNI.out; unfold wrap64; omega⟩
              obtain ⟨ad'', A2, c2, eA, hv0, hv1, hv2, hl2, hi2⟩ := at_T29 HR.out j HJ.out.1 (by have := HJL.out; have := HLT.out; have := HNI.out; omega)
              obtain rfl : ad = ad'' := by injection eA
              have HI2 := Aside0.mk hi2
              have HC2 := Aside0.mk hl2
              clear hi2 hl2
              replace hv0 := (HB.out.cell (World.block_lt_of_cell? w _ hv0)).trans hv0
              replace hv1 := (HB.out.cell (World.block_lt_of_cell? w _ hv1)).trans hv1
              replace hv2 := (HB.out.cell (World.block_lt_of_cell? w _ hv2)).trans hv2
              have FJ : Aside0 (Fit (rd_T29 l j)) := ⟨by have h_ := (HF.out j.toNat (by have := HJ.out; have := HJL.out; have := HNI.out; omega)).1; rwa [show ((j.toNat : Nat) : Int) = j from by have := HJ.out; omega] at h_⟩
              go_upto_region 13 with (first | ((with_reducible refine gate_dst (N := 6) rfl ?_); refine box_event ?hg (N := 6) ?hd (cs := #[.int .i64 0, .slice none 0 0, .bool false]) (t := 29) ?hr ?_; (case hd => rfl); (case hg => rfl); (case hr => first | (go_simp; done) | (go_simp; rfl)); intro gx hg w6 hbox hb; have n0_ := Aside0.mk (below_step (by repeat (first | (with_reducible first | exact HB.out | apply below_alloc | apply pw_below_drewN | apply below_drew1) | exact HB.out)) hb); have BX := Aside0.mk (hbox); have GX := Aside0.mk ((by rw [hg]; exact (below_size (by repeat (first | (with_reducible first | exact HB.out | apply below_alloc | apply pw_below_drewN | apply below_drew1) | exact HB.out)))) : w.heap.size ≤ gx); have HLTG : Aside0 (gb < gx) := ⟨by rw [hg]; exact blk_lt BK.out⟩; have bkn := Aside0.mk (blk_below (g := gb) (o := .cells #[.int .i64 (rd_T29 l i).f0, .slice A1 (rd_T29 l i).f1.length c1, .bool (rd_T29 l i).f2] 29 (0, 0)) BK.out hb); clear BK; have BK := bkn; clear bkn; clear HB; have HB := n0_; clear n0_; clear hb hbox hg; have hzgx_0 : w6.cell? ⟨gx, 0, none⟩ = some (.int .i64 0) := (blk_cell BX.out 0).trans rfl; have hzgx_1 : w6.cell? ⟨gx, 1, none⟩ = some (.slice none 0 0) := (blk_cell BX.out 1).trans rfl; have hzgx_2 : w6.cell? ⟨gx, 2, none⟩ = some (.bool false) := (blk_cell BX.out 2).trans rfl; have hzgxf_0 := blk_frozen BX.out 0; have hzgxf_1 := blk_frozen BX.out 1; have hzgxf_2 := blk_frozen BX.out 2))
              have BX3 : Aside0 ((((w6.setCell ⟨gx, 0, none⟩ (.int .i64 (rd_T29 l j).f0)).setCell ⟨gx, 1, none⟩ (.slice A2 (rd_T29 l j).f1.length c2)).setCell ⟨gx, 2, none⟩ (.bool (rd_T29 l j).f2)).heap[gx]? = some (.cells #[.int .i64 (rd_T29 l j).f0, .slice A2 (rd_T29 l j).f1.length c2, .bool (rd_T29 l j).f2] 29 (0, 0))) := ⟨by (with_reducible repeat (first | refine blk_drewN ?_ _ | refine blk_drew ?_ | refine blk_alloc ?_ _)); refine blk_put (cs := #[.int .i64 (rd_T29 l j).f0, .slice A2 (rd_T29 l j).f1.length c2, .bool false]) ?_ 2 _ rfl; (with_reducible repeat (first | refine blk_drewN ?_ _ | refine blk_drew ?_ | refine blk_alloc ?_ _)); refine blk_put (cs := #[.int .i64 (rd_T29 l j).f0, .slice none 0 0, .bool false]) ?_ 1 _ rfl; (with_reducible repeat (first | refine blk_drewN ?_ _ | refine blk_drew ?_ | refine blk_alloc ?_ _)); refine blk_put (cs := #[.int .i64 0, .slice none 0 0, .bool false]) ?_ 0 _ rfl; (with_reducible repeat (first | refine blk_drewN ?_ _ | refine blk_drew ?_ | refine blk_alloc ?_ _)); exact BX.out⟩
              have hbx : Below w6.heap.size w6 w6 := Below.refl _ _
              have BK3 : Aside0 ((((w6.setCell ⟨gx, 0, none⟩ (.int .i64 (rd_T29 l j).f0)).setCell ⟨gx, 1, none⟩ (.slice A2 (rd_T29 l j).f1.length c2)).setCell ⟨gx, 2, none⟩ (.bool (rd_T29 l j).f2)).heap[gb]? = some (.cells #[.int .i64 (rd_T29 l i).f0, .slice A1 (rd_T29 l i).f1.length c1, .bool (rd_T29 l i).f2] 29 (0, 0))) := ⟨by
              have n_ := HLTG.out
              rw [Below.heap_setCell _ _ _ _ (by simp; omega), Below.heap_setCell _ _ _ _ (by simp; omega), Below.heap_setCell _ _ _ _ (by simp; omega)]
              exact BK.out⟩
              have HB3 : Aside0 (Below w.heap.size w (((w6.setCell ⟨gx, 0, none⟩ (.int .i64 (rd_T29 l j).f0)).setCell ⟨gx, 1, none⟩ (.slice A2 (rd_T29 l j).f1.length c2)).setCell ⟨gx, 2, none⟩ (.bool (rd_T29 l j).f2))) := ⟨by repeat (first | exact HB.out | refine below_set ?_ GX.out)⟩
              clear hbx BX BK HB GX
              generalize hwz : ((w6.setCell ⟨gx, 0, none⟩ (.int .i64 (rd_T29 l j).f0)).setCell ⟨gx, 1, none⟩ (.slice A2 (rd_T29 l j).f1.length c2)).setCell ⟨gx, 2, none⟩ (.bool (rd_T29 l j).f2) = wz at BX3 BK3 HB3 ⊢
              clear hwz
              have xg0 : wz.cell? ⟨gx, 0, none⟩ = some (.int .i64 (rd_T29 l j).f0) := (blk_cell BX3.out 0).trans rfl
              have xg1 : wz.cell? ⟨gx, 1, none⟩ = some (.slice A2 (rd_T29 l j).f1.length c2) := (blk_cell BX3.out 1).trans rfl
              have xg2 : wz.cell? ⟨gx, 2, none⟩ = some (.bool (rd_T29 l j).f2) := (blk_cell BX3.out 2).trans rfl
              have eg0 : wz.cell? ⟨gb, 0, none⟩ = some (.int .i64 (rd_T29 l i).f0) := (blk_cell BK3.out 0).trans rfl
              have eg1 : wz.cell? ⟨gb, 1, none⟩ = some (.slice A1 (rd_T29 l i).f1.length c1) := (blk_cell BK3.out 1).trans rfl
              have eg2 : wz.cell? ⟨gb, 2, none⟩ = some (.bool (rd_T29 l i).f2) := (blk_cell BK3.out 2).trans rfl
              by_cases hkk : (rd_T29 l j).f0 = (rd_T29 l i).f0
              case neg =>
                have kk0 : ((rd_T29 l j).f0 == (rd_T29 l i).f0) = false := beq_eq_false_iff_ne.mpr hkk
                clear hkk
                go_quiet (fail)
                go_wp2
                go_roundg (100 - (j + 1).toNat)
                case measure => have := HKJ.out; have := HJ.out; have := HJL.out; have := HNI.out; have := HL.out; have := HLT.out; omega
                case rel => exact ⟨_, wrap64 (j + 1), rfl, rfl, ⟨by rw [W2.out]; have := HJ.out; have := HJL.out; omega⟩, ⟨by rw [W2.out]⟩, ⟨by (with_reducible repeat (first | refine blk_drewN ?_ _ | refine blk_drew ?_)); exact BK3.out⟩, ⟨by repeat (first | (with_reducible first | exact HB3.out | apply pw_below_drewN | apply below_drew1) | exact HB3.out)⟩⟩
              have kk0 : ((rd_T29 l j).f0 == (rd_T29 l i).f0) = true := beq_iff_eq.mpr hkk
              clear hkk
              by_cases h2 : (rd_T29 l i).f0 = 2
              case pos =>
                have t2 : ((rd_T29 l i).f0 == 2) = true := beq_iff_eq.mpr h2
                clear h2
                go_quiet (fail)
                go_wp2
                go_ret
                exact post_no (by repeat (first | (with_reducible first | exact HB3.out | apply pw_below_drewN | apply below_drew1) | exact HB3.out))
              have t2 : ((rd_T29 l i).f0 == 2) = false := beq_eq_false_iff_ne.mpr h2
              clear h2
              by_cases h3 : (rd_T29 l i).f0 = 3
              case pos =>
                have t3 : ((rd_T29 l i).f0 == 3) = true := beq_iff_eq.mpr h3
                clear h3
                go_quiet (fail)
                go_wp2
                go_ret
                exact post_no (by repeat (first | (with_reducible first | exact HB3.out | apply pw_below_drewN | apply below_drew1) | exact HB3.out))
              have t3 : ((rd_T29 l i).f0 == 3) = false := beq_eq_false_iff_ne.mpr h3
              clear h3
              obtain ⟨r2, _, n2, kx⟩ := (key_ev (rd_T29 l j) FJ.out).some_
              obtain ⟨r1, _, n1, ke⟩ := (key_ev (rd_T29 l i) FT.out).some_
              have KX := Aside0.mk kx
              have KE := Aside0.mk ke
              clear kx ke
              cases eq : (r2.toList == r1.toList)
              case false =>
                go_region_held3 (fun w' => w'.cell? ⟨gx, 0, none⟩ = some (.int .i64 (rd_T29 l j).f0) ∧ w'.cell? ⟨gx, 1, none⟩ = some (.slice A2 (rd_T29 l j).f1.length c2) ∧ w'.cell? ⟨gx, 2, none⟩ = some (.bool (rd_T29 l j).f2) ∧ w'.cell? ⟨gb, 0, none⟩ = some (.int .i64 (rd_T29 l i).f0) ∧ w'.cell? ⟨gb, 1, none⟩ = some (.slice A1 (rd_T29 l i).f1.length c1) ∧ w'.cell? ⟨gb, 2, none⟩ = some (.bool (rd_T29 l i).f2) ∧ Aside0 (w'.heap[gb]? = some (.cells #[.int .i64 (rd_T29 l i).f0, .slice A1 (rd_T29 l i).f1.length c1, .bool (rd_T29 l i).f2] 29 (0, 0))) ∧ Aside0 (Below w.heap.size w w')) (first | exact ⟨xg0, xg1, xg2, eg0, eg1, eg2, BK3, ⟨below_drew1 HB3.out⟩⟩ | (go_split_ands; refine ⟨pw_cell_below hbk (by assumption), pw_cell_below hbk (by assumption), pw_cell_below hbk (by assumption), pw_cell_below hbk (by assumption), pw_cell_below hbk (by assumption), pw_cell_below hbk (by assumption), ⟨blk_below (Aside0.out (by assumption)) hbk⟩, ⟨below_step (Aside0.out (by assumption)) hbk⟩⟩) | (trace_state; fail)) ((go_at_call 12; first | ((with_reducible refine (spec_Key.calls n2 _ _ _ _ _ r2 _ ?s1 ?s2 KX.out).mono ?_); (case s1 => (try go_split_ands); exact Kd.C_below HI2.out (Aside0.out (by assumption))); (case s2 => exact HC2.out); rintro e w' ⟨rfl, hbk⟩) | ((with_reducible refine (spec_Key.calls n1 _ _ _ _ _ r1 _ ?s1 ?s2 KE.out).mono ?_); (case s1 => (try go_split_ands); exact Kd.C_below HI1.out (Aside0.out (by assumption))); (case s2 => exact HC1.out); rintro e w' ⟨rfl, hbk⟩)))
                all_goals
                  go_split_ands
                  go_wp2
                  go_roundg (100 - (j + 1).toNat)
                  case measure => have := HKJ.out; have := HJ.out; have := HJL.out; have := HNI.out; have := HL.out; have := HLT.out; omega
                  case rel => exact ⟨_, wrap64 (j + 1), rfl, rfl, ⟨by rw [W2.out]; have := HJ.out; have := HJL.out; omega⟩, ⟨by rw [W2.out]⟩, by assumption, by assumption⟩
              case true =>
                go_region_held3 (fun w' => w'.cell? ⟨gx, 0, none⟩ = some (.int .i64 (rd_T29 l j).f0) ∧ w'.cell? ⟨gx, 1, none⟩ = some (.slice A2 (rd_T29 l j).f1.length c2) ∧ w'.cell? ⟨gx, 2, none⟩ = some (.bool (rd_T29 l j).f2) ∧ w'.cell? ⟨gb, 0, none⟩ = some (.int .i64 (rd_T29 l i).f0) ∧ w'.cell? ⟨gb, 1, none⟩ = some (.slice A1 (rd_T29 l i).f1.length c1) ∧ w'.cell? ⟨gb, 2, none⟩ = some (.bool (rd_T29 l i).f2) ∧ Aside0 (w'.heap[gb]? = some (.cells #[.int .i64 (rd_T29 l i).f0, .slice A1 (rd_T29 l i).f1.length c1, .bool (rd_T29 l i).f2] 29 (0, 0))) ∧ Aside0 (Below w.heap.size w w')) (first | exact ⟨xg0, xg1, xg2, eg0, eg1, eg2, BK3, ⟨below_drew1 HB3.out⟩⟩ | (go_split_ands; refine ⟨pw_cell_below hbk (by assumption), pw_cell_below hbk (by assumption), pw_cell_below hbk (by assumption), pw_cell_below hbk (by assumption), pw_cell_below hbk (by assumption), pw_cell_below hbk (by assumption), ⟨blk_below (Aside0.out (by assumption)) hbk⟩, ⟨below_step (Aside0.out (by assumption)) hbk⟩⟩) | (trace_state; fail)) ((go_at_call 12; first | ((with_reducible refine (spec_Key.calls n2 _ _ _ _ _ r2 _ ?s1 ?s2 KX.out).mono ?_); (case s1 => (try go_split_ands); exact Kd.C_below HI2.out (Aside0.out (by assumption))); (case s2 => exact HC2.out); rintro e w' ⟨rfl, hbk⟩) | ((with_reducible refine (spec_Key.calls n1 _ _ _ _ _ r1 _ ?s1 ?s2 KE.out).mono ?_); (case s1 => (try go_split_ands); exact Kd.C_below HI1.out (Aside0.out (by assumption))); (case s2 => exact HC1.out); rintro e w' ⟨rfl, hbk⟩)))
                all_goals
                  go_split_ands
                  go_wp2
                  go_ret
                  exact post_no (Aside0.out (by assumption))
end Go.Proofs.YtikgnlgmidbclaaDoor.Plain
