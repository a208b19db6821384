/- The walks of spec.EntryOk at the kinds of one field: each answers what entryB says. Condition: fields of at most 2^47 - 4096 bytes. -/
import Derived.Test.YtikgnlgmidbclaaDoorV3
namespace Go.Proofs.YtikgnlgmidbclaaDoor.Plain
set_option linter.unusedVariables false
set_option linter.unusedSimpArgs false
open Go.RowKit Go.Proofs.YtikgnlgmidbclaaDoor.PFnModulePath Go.Proofs.YtikgnlgmidbclaaDoorW.PrintWords Go.Proofs.YtikgnlgmidbclaaDoorW.PrintLast Go.Proofs.YtikgnlgmidbclaaDoorW.PrintMore

set_option maxHeartbeats 4000000 in
set_option maxRecDepth 100000 in
theorem entry1 (A : Option Addr) (cp : Nat) (a : ByteArray) (w : World) (hr : Kd.C Kd.string w A [a].length [a]) (hcap : [a].length ≤ cp) (ha : a.size ≤ 140737488351232) :
    Calls Tryd.prog 10 #[.agg #[.int .i64 1, .slice A 1 cp, .bool false]] w fun e w' => e = .returned (.bool (pathB a)) ∧ Below w.heap.size w w' := by
  have hu29 := Tryd.underlying29
  have hnil : (⟨#[]⟩ : ByteArray).size ≤ 140737488351232 := by decide
  have Ha := Aside0.mk ha
  clear ha
  have HN := Aside0.mk hnil
  clear hnil
  have HC := Aside0.mk hcap
  clear hcap
  obtain ⟨ad, rfl, hx0⟩ := fields1 hr
  clear hr
  have HB := Aside0.mk (Below.refl w.heap.size w)
  cases e1 : pathB a
  case false =>
    go_enter Tryd.func10, Tryd.ntmps10
    go_wp2_with (first | ((with_reducible refine gate_dst (N := 1) rfl ?_); refine box_event ?hg (N := 1) ?hd (cs := #[.int .i64 1, .slice (some ad) 1 cp, .bool false]) (t := 29) ?hr ?_; (case hd => rfl); (case hg => rfl); (case hr => first | (go_simp; done) | (go_simp; rfl)); intro gb hg w7 hbox hb; have n0_ := Aside0.mk (below_step (by repeat (first | (with_reducible first | exact HB.out | apply below_alloc | apply pw_below_drewN | apply below_drew1) | exact HB.out)) hb); have BK := Aside0.mk (hbox); have GE := Aside0.mk ((by rw [hg]; exact (below_size (by repeat (first | (with_reducible first | exact HB.out | apply below_alloc | apply pw_below_drewN | apply below_drew1) | exact HB.out))) : w.heap.size ≤ gb)); clear HB; have HB := n0_; clear n0_; clear hb hbox hg; have hcz_0 : w7.cell? ⟨gb, 0, none⟩ = some (.int .i64 1) := (blk_cell BK.out 0).trans rfl; have hcz_1 : w7.cell? ⟨gb, 1, none⟩ = some (.slice (some ad) 1 cp) := (blk_cell BK.out 1).trans rfl; have hcz_2 : w7.cell? ⟨gb, 2, none⟩ = some (.bool false) := (blk_cell BK.out 2).trans rfl; have hfz_0 := blk_frozen BK.out 0; have hfz_1 := blk_frozen BK.out 1; have hfz_2 := blk_frozen BK.out 2; replace hx0 := (HB.out.cell (World.block_lt_of_cell? w _ hx0)).trans hx0) | (go_at_call 20; (with_reducible refine (path_is Ha.out e1 _).mono ?_); rintro e w' ⟨rfl, ⟨nd, rfl⟩⟩))
    repeat (go_quiet (first | (go_at_call 20; with_reducible exact path_quiet Ha.out e1 _ _)); try go_wp2)
    go_ret
    exact ⟨by first | rfl | (simp; done) | (simp [*]; done), by repeat (first | (with_reducible first | exact HB.out | apply below_alloc | apply pw_below_drewN | apply below_drew1 | refine below_set ?_ GE.out) | exact HB.out)⟩
  case true =>
    go_enter Tryd.func10, Tryd.ntmps10
    go_wp2_with (first | ((with_reducible refine gate_dst (N := 1) rfl ?_); refine box_event ?hg (N := 1) ?hd (cs := #[.int .i64 1, .slice (some ad) 1 cp, .bool false]) (t := 29) ?hr ?_; (case hd => rfl); (case hg => rfl); (case hr => first | (go_simp; done) | (go_simp; rfl)); intro gb hg w7 hbox hb; have n0_ := Aside0.mk (below_step (by repeat (first | (with_reducible first | exact HB.out | apply below_alloc | apply pw_below_drewN | apply below_drew1) | exact HB.out)) hb); have BK := Aside0.mk (hbox); have GE := Aside0.mk ((by rw [hg]; exact (below_size (by repeat (first | (with_reducible first | exact HB.out | apply below_alloc | apply pw_below_drewN | apply below_drew1) | exact HB.out))) : w.heap.size ≤ gb)); clear HB; have HB := n0_; clear n0_; clear hb hbox hg; have hcz_0 : w7.cell? ⟨gb, 0, none⟩ = some (.int .i64 1) := (blk_cell BK.out 0).trans rfl; have hcz_1 : w7.cell? ⟨gb, 1, none⟩ = some (.slice (some ad) 1 cp) := (blk_cell BK.out 1).trans rfl; have hcz_2 : w7.cell? ⟨gb, 2, none⟩ = some (.bool false) := (blk_cell BK.out 2).trans rfl; have hfz_0 := blk_frozen BK.out 0; have hfz_1 := blk_frozen BK.out 1; have hfz_2 := blk_frozen BK.out 2; replace hx0 := (HB.out.cell (World.block_lt_of_cell? w _ hx0)).trans hx0) | (go_at_call 20; (with_reducible refine (path_is Ha.out e1 _).mono ?_); rintro e w' ⟨rfl, ⟨nd, rfl⟩⟩))
    repeat (go_quiet (first | (go_at_call 20; with_reducible exact path_quiet Ha.out e1 _ _)); try go_wp2)
    go_ret
    exact ⟨by first | rfl | (simp; done) | (simp [*]; done), by repeat (first | (with_reducible first | exact HB.out | apply below_alloc | apply pw_below_drewN | apply below_drew1 | refine below_set ?_ GE.out) | exact HB.out)⟩

set_option maxHeartbeats 4000000 in
set_option maxRecDepth 100000 in
theorem entry2 (A : Option Addr) (cp : Nat) (a : ByteArray) (w : World) (hr : Kd.C Kd.string w A [a].length [a]) (hcap : [a].length ≤ cp) (ha : a.size ≤ 140737488351232) :
    Calls Tryd.prog 10 #[.agg #[.int .i64 2, .slice A 1 cp, .bool false]] w fun e w' => e = .returned (.bool (goB a)) ∧ Below w.heap.size w w' := by
  have hu29 := Tryd.underlying29
  have hnil : (⟨#[]⟩ : ByteArray).size ≤ 140737488351232 := by decide
  have Ha := Aside0.mk ha
  clear ha
  have HN := Aside0.mk hnil
  clear hnil
  have HC := Aside0.mk hcap
  clear hcap
  obtain ⟨ad, rfl, hx0⟩ := fields1 hr
  clear hr
  have HB := Aside0.mk (Below.refl w.heap.size w)
  cases e1 : goB a
  case false =>
    go_enter Tryd.func10, Tryd.ntmps10
    go_wp2_with (first | ((with_reducible refine gate_dst (N := 1) rfl ?_); refine box_event ?hg (N := 1) ?hd (cs := #[.int .i64 2, .slice (some ad) 1 cp, .bool false]) (t := 29) ?hr ?_; (case hd => rfl); (case hg => rfl); (case hr => first | (go_simp; done) | (go_simp; rfl)); intro gb hg w7 hbox hb; have n0_ := Aside0.mk (below_step (by repeat (first | (with_reducible first | exact HB.out | apply below_alloc | apply pw_below_drewN | apply below_drew1) | exact HB.out)) hb); have BK := Aside0.mk (hbox); have GE := Aside0.mk ((by rw [hg]; exact (below_size (by repeat (first | (with_reducible first | exact HB.out | apply below_alloc | apply pw_below_drewN | apply below_drew1) | exact HB.out))) : w.heap.size ≤ gb)); clear HB; have HB := n0_; clear n0_; clear hb hbox hg; have hcz_0 : w7.cell? ⟨gb, 0, none⟩ = some (.int .i64 2) := (blk_cell BK.out 0).trans rfl; have hcz_1 : w7.cell? ⟨gb, 1, none⟩ = some (.slice (some ad) 1 cp) := (blk_cell BK.out 1).trans rfl; have hcz_2 : w7.cell? ⟨gb, 2, none⟩ = some (.bool false) := (blk_cell BK.out 2).trans rfl; have hfz_0 := blk_frozen BK.out 0; have hfz_1 := blk_frozen BK.out 1; have hfz_2 := blk_frozen BK.out 2; replace hx0 := (HB.out.cell (World.block_lt_of_cell? w _ hx0)).trans hx0) | (go_at_call 21; (with_reducible refine (go_is Ha.out e1 _).mono ?_); rintro e w' ⟨rfl, ⟨nd, rfl⟩⟩))
    repeat (go_quiet (first | (go_at_call 21; with_reducible exact go_quiet Ha.out e1 _ _)); try go_wp2)
    go_ret
    exact ⟨by first | rfl | (simp; done) | (simp [*]; done), by repeat (first | (with_reducible first | exact HB.out | apply below_alloc | apply pw_below_drewN | apply below_drew1 | refine below_set ?_ GE.out) | exact HB.out)⟩
  case true =>
    go_enter Tryd.func10, Tryd.ntmps10
    go_wp2_with (first | ((with_reducible refine gate_dst (N := 1) rfl ?_); refine box_event ?hg (N := 1) ?hd (cs := #[.int .i64 2, .slice (some ad) 1 cp, .bool false]) (t := 29) ?hr ?_; (case hd => rfl); (case hg => rfl); (case hr => first | (go_simp; done) | (go_simp; rfl)); intro gb hg w7 hbox hb; have n0_ := Aside0.mk (below_step (by repeat (first | (with_reducible first | exact HB.out | apply below_alloc | apply pw_below_drewN | apply below_drew1) | exact HB.out)) hb); have BK := Aside0.mk (hbox); have GE := Aside0.mk ((by rw [hg]; exact (below_size (by repeat (first | (with_reducible first | exact HB.out | apply below_alloc | apply pw_below_drewN | apply below_drew1) | exact HB.out))) : w.heap.size ≤ gb)); clear HB; have HB := n0_; clear n0_; clear hb hbox hg; have hcz_0 : w7.cell? ⟨gb, 0, none⟩ = some (.int .i64 2) := (blk_cell BK.out 0).trans rfl; have hcz_1 : w7.cell? ⟨gb, 1, none⟩ = some (.slice (some ad) 1 cp) := (blk_cell BK.out 1).trans rfl; have hcz_2 : w7.cell? ⟨gb, 2, none⟩ = some (.bool false) := (blk_cell BK.out 2).trans rfl; have hfz_0 := blk_frozen BK.out 0; have hfz_1 := blk_frozen BK.out 1; have hfz_2 := blk_frozen BK.out 2; replace hx0 := (HB.out.cell (World.block_lt_of_cell? w _ hx0)).trans hx0) | (go_at_call 21; (with_reducible refine (go_is Ha.out e1 _).mono ?_); rintro e w' ⟨rfl, ⟨nd, rfl⟩⟩))
    repeat (go_quiet (first | (go_at_call 21; with_reducible exact go_quiet Ha.out e1 _ _)); try go_wp2)
    go_ret
    exact ⟨by first | rfl | (simp; done) | (simp [*]; done), by repeat (first | (with_reducible first | exact HB.out | apply below_alloc | apply pw_below_drewN | apply below_drew1 | refine below_set ?_ GE.out) | exact HB.out)⟩

set_option maxHeartbeats 4000000 in
set_option maxRecDepth 100000 in
theorem entry3 (A : Option Addr) (cp : Nat) (a : ByteArray) (w : World) (hr : Kd.C Kd.string w A [a].length [a]) (hcap : [a].length ≤ cp) (ha : a.size ≤ 140737488351232) :
    Calls Tryd.prog 10 #[.agg #[.int .i64 3, .slice A 1 cp, .bool false]] w fun e w' => e = .returned (.bool ((a.toList == ([100, 101, 102, 97, 117, 108, 116] : List UInt8)) || (decide (2 < (a.size : Int)) && ((a.extract 0 2).toList == ([103, 111] : List UInt8)) && goB (a.extract 2 a.size)))) ∧ Below w.heap.size w w' := by
  have hu29 := Tryd.underlying29
  have hnil : (⟨#[]⟩ : ByteArray).size ≤ 140737488351232 := by decide
  have Ha := Aside0.mk ha
  clear ha
  have HX : Aside0 ((a.extract 2 a.size).size ≤ 140737488351232) := ⟨by have h_ := Ha.out; rw [ext_size _ _ _ (Nat.le_refl _)]; omega⟩
  have HN := Aside0.mk hnil
  clear hnil
  have HC := Aside0.mk hcap
  clear hcap
  obtain ⟨ad, rfl, hx0⟩ := fields1 hr
  clear hr
  have HB := Aside0.mk (Below.refl w.heap.size w)
  by_cases e1 : (a).toList = ([100, 101, 102, 97, 117, 108, 116] : List UInt8)
  · have Q1 := Aside0.mk e1
    have e1b0 : ((a).toList == ([100, 101, 102, 97, 117, 108, 116] : List UInt8)) = true := beq_iff_eq.mpr e1
    have e1b1 : ((a).toList != ([100, 101, 102, 97, 117, 108, 116] : List UInt8)) = false := bne_eq_false_iff_eq.mpr e1
    clear e1
    go_enter Tryd.func10, Tryd.ntmps10
    go_wp2_with (first | ((with_reducible refine gate_dst (N := 1) rfl ?_); refine box_event ?hg (N := 1) ?hd (cs := #[.int .i64 3, .slice (some ad) 1 cp, .bool false]) (t := 29) ?hr ?_; (case hd => rfl); (case hg => rfl); (case hr => first | (go_simp; done) | (go_simp; rfl)); intro gb hg w7 hbox hb; have n0_ := Aside0.mk (below_step (by repeat (first | (with_reducible first | exact HB.out | apply below_alloc | apply pw_below_drewN | apply below_drew1) | exact HB.out)) hb); have BK := Aside0.mk (hbox); have GE := Aside0.mk ((by rw [hg]; exact (below_size (by repeat (first | (with_reducible first | exact HB.out | apply below_alloc | apply pw_below_drewN | apply below_drew1) | exact HB.out))) : w.heap.size ≤ gb)); clear HB; have HB := n0_; clear n0_; clear hb hbox hg; have hcz_0 : w7.cell? ⟨gb, 0, none⟩ = some (.int .i64 3) := (blk_cell BK.out 0).trans rfl; have hcz_1 : w7.cell? ⟨gb, 1, none⟩ = some (.slice (some ad) 1 cp) := (blk_cell BK.out 1).trans rfl; have hcz_2 : w7.cell? ⟨gb, 2, none⟩ = some (.bool false) := (blk_cell BK.out 2).trans rfl; have hfz_0 := blk_frozen BK.out 0; have hfz_1 := blk_frozen BK.out 1; have hfz_2 := blk_frozen BK.out 2; replace hx0 := (HB.out.cell (World.block_lt_of_cell? w _ hx0)).trans hx0))
    repeat (go_quiet (fail); try go_wp2)
    go_ret
    exact ⟨by first | rfl | (simp; done) | (simp [*]; done), by repeat (first | (with_reducible first | exact HB.out | apply below_alloc | apply pw_below_drewN | apply below_drew1 | refine below_set ?_ GE.out) | exact HB.out)⟩
  · have Q1 := Aside0.mk e1
    have e1b0 : ((a).toList == ([100, 101, 102, 97, 117, 108, 116] : List UInt8)) = false := beq_eq_false_iff_ne.mpr e1
    have e1b1 : ((a).toList != ([100, 101, 102, 97, 117, 108, 116] : List UInt8)) = true := bne_iff_ne.mpr e1
    by_cases e2 : (2 : Int) < (a.size : Int)
    · have Q2 := Aside0.mk e2
      have e2b0 : decide (2 < (a.size : Int)) = true := decide_eq_true (by omega)
      have e2b1 : decide (2 < a.size) = true := decide_eq_true (by omega)
      have e2b2 : (2 ≤ (a.size : Int)) = True := eq_true (by omega)
      have e2b3 : (2 ≤ a.size) = True := eq_true (by omega)
      by_cases e3 : (a.extract 0 2).toList = ([103, 111] : List UInt8)
      · have Q3 := Aside0.mk e3
        have e3b0 : ((a.extract 0 2).toList == ([103, 111] : List UInt8)) = true := beq_iff_eq.mpr e3
        have e3b1 : ((a.extract 0 2).toList != ([103, 111] : List UInt8)) = false := bne_eq_false_iff_eq.mpr e3
        clear e3
        cases e4 : goB (a.extract 2 a.size)
        case false =>
          go_enter Tryd.func10, Tryd.ntmps10
          go_wp2_with (first | ((with_reducible refine gate_dst (N := 1) rfl ?_); refine box_event ?hg (N := 1) ?hd (cs := #[.int .i64 3, .slice (some ad) 1 cp, .bool false]) (t := 29) ?hr ?_; (case hd => rfl); (case hg => rfl); (case hr => first | (go_simp; done) | (go_simp; rfl)); intro gb hg w7 hbox hb; have n0_ := Aside0.mk (below_step (by repeat (first | (with_reducible first | exact HB.out | apply below_alloc | apply pw_below_drewN | apply below_drew1) | exact HB.out)) hb); have BK := Aside0.mk (hbox); have GE := Aside0.mk ((by rw [hg]; exact (below_size (by repeat (first | (with_reducible first | exact HB.out | apply below_alloc | apply pw_below_drewN | apply below_drew1) | exact HB.out))) : w.heap.size ≤ gb)); clear HB; have HB := n0_; clear n0_; clear hb hbox hg; have hcz_0 : w7.cell? ⟨gb, 0, none⟩ = some (.int .i64 3) := (blk_cell BK.out 0).trans rfl; have hcz_1 : w7.cell? ⟨gb, 1, none⟩ = some (.slice (some ad) 1 cp) := (blk_cell BK.out 1).trans rfl; have hcz_2 : w7.cell? ⟨gb, 2, none⟩ = some (.bool false) := (blk_cell BK.out 2).trans rfl; have hfz_0 := blk_frozen BK.out 0; have hfz_1 := blk_frozen BK.out 1; have hfz_2 := blk_frozen BK.out 2; replace hx0 := (HB.out.cell (World.block_lt_of_cell? w _ hx0)).trans hx0) | (go_at_call 21; (with_reducible refine (go_is HX.out e4 _).mono ?_); rintro e w' ⟨rfl, ⟨nd, rfl⟩⟩))
          repeat (go_quiet (first | (go_at_call 21; with_reducible exact go_quiet HX.out e4 _ _)); try go_wp2)
          go_ret
          exact ⟨by first | rfl | (simp; done) | (simp [*]; done), by repeat (first | (with_reducible first | exact HB.out | apply below_alloc | apply pw_below_drewN | apply below_drew1 | refine below_set ?_ GE.out) | exact HB.out)⟩
        case true =>
          go_enter Tryd.func10, Tryd.ntmps10
          go_wp2_with (first | ((with_reducible refine gate_dst (N := 1) rfl ?_); refine box_event ?hg (N := 1) ?hd (cs := #[.int .i64 3, .slice (some ad) 1 cp, .bool false]) (t := 29) ?hr ?_; (case hd => rfl); (case hg => rfl); (case hr => first | (go_simp; done) | (go_simp; rfl)); intro gb hg w7 hbox hb; have n0_ := Aside0.mk (below_step (by repeat (first | (with_reducible first | exact HB.out | apply below_alloc | apply pw_below_drewN | apply below_drew1) | exact HB.out)) hb); have BK := Aside0.mk (hbox); have GE := Aside0.mk ((by rw [hg]; exact (below_size (by repeat (first | (with_reducible first | exact HB.out | apply below_alloc | apply pw_below_drewN | apply below_drew1) | exact HB.out))) : w.heap.size ≤ gb)); clear HB; have HB := n0_; clear n0_; clear hb hbox hg; have hcz_0 : w7.cell? ⟨gb, 0, none⟩ = some (.int .i64 3) := (blk_cell BK.out 0).trans rfl; have hcz_1 : w7.cell? ⟨gb, 1, none⟩ = some (.slice (some ad) 1 cp) := (blk_cell BK.out 1).trans rfl; have hcz_2 : w7.cell? ⟨gb, 2, none⟩ = some (.bool false) := (blk_cell BK.out 2).trans rfl; have hfz_0 := blk_frozen BK.out 0; have hfz_1 := blk_frozen BK.out 1; have hfz_2 := blk_frozen BK.out 2; replace hx0 := (HB.out.cell (World.block_lt_of_cell? w _ hx0)).trans hx0) | (go_at_call 21; (with_reducible refine (go_is HX.out e4 _).mono ?_); rintro e w' ⟨rfl, ⟨nd, rfl⟩⟩))
          repeat (go_quiet (first | (go_at_call 21; with_reducible exact go_quiet HX.out e4 _ _)); try go_wp2)
          go_ret
          exact ⟨by first | rfl | (simp; done) | (simp [*]; done), by repeat (first | (with_reducible first | exact HB.out | apply below_alloc | apply pw_below_drewN | apply below_drew1 | refine below_set ?_ GE.out) | exact HB.out)⟩
      · have Q3 := Aside0.mk e3
        have e3b0 : ((a.extract 0 2).toList == ([103, 111] : List UInt8)) = false := beq_eq_false_iff_ne.mpr e3
        have e3b1 : ((a.extract 0 2).toList != ([103, 111] : List UInt8)) = true := bne_iff_ne.mpr e3
        go_enter Tryd.func10, Tryd.ntmps10
        go_wp2_with (first | ((with_reducible refine gate_dst (N := 1) rfl ?_); refine box_event ?hg (N := 1) ?hd (cs := #[.int .i64 3, .slice (some ad) 1 cp, .bool false]) (t := 29) ?hr ?_; (case hd => rfl); (case hg => rfl); (case hr => first | (go_simp; done) | (go_simp; rfl)); intro gb hg w7 hbox hb; have n0_ := Aside0.mk (below_step (by repeat (first | (with_reducible first | exact HB.out | apply below_alloc | apply pw_below_drewN | apply below_drew1) | exact HB.out)) hb); have BK := Aside0.mk (hbox); have GE := Aside0.mk ((by rw [hg]; exact (below_size (by repeat (first | (with_reducible first | exact HB.out | apply below_alloc | apply pw_below_drewN | apply below_drew1) | exact HB.out))) : w.heap.size ≤ gb)); clear HB; have HB := n0_; clear n0_; clear hb hbox hg; have hcz_0 : w7.cell? ⟨gb, 0, none⟩ = some (.int .i64 3) := (blk_cell BK.out 0).trans rfl; have hcz_1 : w7.cell? ⟨gb, 1, none⟩ = some (.slice (some ad) 1 cp) := (blk_cell BK.out 1).trans rfl; have hcz_2 : w7.cell? ⟨gb, 2, none⟩ = some (.bool false) := (blk_cell BK.out 2).trans rfl; have hfz_0 := blk_frozen BK.out 0; have hfz_1 := blk_frozen BK.out 1; have hfz_2 := blk_frozen BK.out 2; replace hx0 := (HB.out.cell (World.block_lt_of_cell? w _ hx0)).trans hx0))
        repeat (go_quiet (fail); try go_wp2)
        go_ret
        exact ⟨by first | rfl | (simp; done) | (simp [*]; done), by repeat (first | (with_reducible first | exact HB.out | apply below_alloc | apply pw_below_drewN | apply below_drew1 | refine below_set ?_ GE.out) | exact HB.out)⟩
    · have Q2 := Aside0.mk e2
      have e2b0 : decide (2 < (a.size : Int)) = false := decide_eq_false (by omega)
      have e2b1 : decide (2 < a.size) = false := decide_eq_false (by omega)
      go_enter Tryd.func10, Tryd.ntmps10
      go_wp2_with (first | ((with_reducible refine gate_dst (N := 1) rfl ?_); refine box_event ?hg (N := 1) ?hd (cs := #[.int .i64 3, .slice (some ad) 1 cp, .bool false]) (t := 29) ?hr ?_; (case hd => rfl); (case hg => rfl); (case hr => first | (go_simp; done) | (go_simp; rfl)); intro gb hg w7 hbox hb; have n0_ := Aside0.mk (below_step (by repeat (first | (with_reducible first | exact HB.out | apply below_alloc | apply pw_below_drewN | apply below_drew1) | exact HB.out)) hb); have BK := Aside0.mk (hbox); have GE := Aside0.mk ((by rw [hg]; exact (below_size (by repeat (first | (with_reducible first | exact HB.out | apply below_alloc | apply pw_below_drewN | apply below_drew1) | exact HB.out))) : w.heap.size ≤ gb)); clear HB; have HB := n0_; clear n0_; clear hb hbox hg; have hcz_0 : w7.cell? ⟨gb, 0, none⟩ = some (.int .i64 3) := (blk_cell BK.out 0).trans rfl; have hcz_1 : w7.cell? ⟨gb, 1, none⟩ = some (.slice (some ad) 1 cp) := (blk_cell BK.out 1).trans rfl; have hcz_2 : w7.cell? ⟨gb, 2, none⟩ = some (.bool false) := (blk_cell BK.out 2).trans rfl; have hfz_0 := blk_frozen BK.out 0; have hfz_1 := blk_frozen BK.out 1; have hfz_2 := blk_frozen BK.out 2; replace hx0 := (HB.out.cell (World.block_lt_of_cell? w _ hx0)).trans hx0))
      repeat (go_quiet (fail); try go_wp2)
      go_ret
      exact ⟨by first | rfl | (simp; done) | (simp [*]; done), by repeat (first | (with_reducible first | exact HB.out | apply below_alloc | apply pw_below_drewN | apply below_drew1 | refine below_set ?_ GE.out) | exact HB.out)⟩

set_option maxHeartbeats 4000000 in
set_option maxRecDepth 100000 in
theorem entry9 (A : Option Addr) (cp : Nat) (a : ByteArray) (w : World) (hr : Kd.C Kd.string w A [a].length [a]) (hcap : [a].length ≤ cp) (ha : a.size ≤ 140737488351232) :
    Calls Tryd.prog 10 #[.agg #[.int .i64 9, .slice A 1 cp, .bool false]] w fun e w' => e = .returned (.bool (pathB a)) ∧ Below w.heap.size w w' := by
  have hu29 := Tryd.underlying29
  have hnil : (⟨#[]⟩ : ByteArray).size ≤ 140737488351232 := by decide
  have Ha := Aside0.mk ha
  clear ha
  have HN := Aside0.mk hnil
  clear hnil
  have HC := Aside0.mk hcap
  clear hcap
  obtain ⟨ad, rfl, hx0⟩ := fields1 hr
  clear hr
  have HB := Aside0.mk (Below.refl w.heap.size w)
  cases e1 : pathB a
  case false =>
    go_enter Tryd.func10, Tryd.ntmps10
    go_wp2_with (first | ((with_reducible refine gate_dst (N := 1) rfl ?_); refine box_event ?hg (N := 1) ?hd (cs := #[.int .i64 9, .slice (some ad) 1 cp, .bool false]) (t := 29) ?hr ?_; (case hd => rfl); (case hg => rfl); (case hr => first | (go_simp; done) | (go_simp; rfl)); intro gb hg w7 hbox hb; have n0_ := Aside0.mk (below_step (by repeat (first | (with_reducible first | exact HB.out | apply below_alloc | apply pw_below_drewN | apply below_drew1) | exact HB.out)) hb); have BK := Aside0.mk (hbox); have GE := Aside0.mk ((by rw [hg]; exact (below_size (by repeat (first | (with_reducible first | exact HB.out | apply below_alloc | apply pw_below_drewN | apply below_drew1) | exact HB.out))) : w.heap.size ≤ gb)); clear HB; have HB := n0_; clear n0_; clear hb hbox hg; have hcz_0 : w7.cell? ⟨gb, 0, none⟩ = some (.int .i64 9) := (blk_cell BK.out 0).trans rfl; have hcz_1 : w7.cell? ⟨gb, 1, none⟩ = some (.slice (some ad) 1 cp) := (blk_cell BK.out 1).trans rfl; have hcz_2 : w7.cell? ⟨gb, 2, none⟩ = some (.bool false) := (blk_cell BK.out 2).trans rfl; have hfz_0 := blk_frozen BK.out 0; have hfz_1 := blk_frozen BK.out 1; have hfz_2 := blk_frozen BK.out 2; replace hx0 := (HB.out.cell (World.block_lt_of_cell? w _ hx0)).trans hx0) | (go_at_call 20; (with_reducible refine (path_is Ha.out e1 _).mono ?_); rintro e w' ⟨rfl, ⟨nd, rfl⟩⟩))
    repeat (go_quiet (first | (go_at_call 20; with_reducible exact path_quiet Ha.out e1 _ _)); try go_wp2)
    go_ret
    exact ⟨by first | rfl | (simp; done) | (simp [*]; done), by repeat (first | (with_reducible first | exact HB.out | apply below_alloc | apply pw_below_drewN | apply below_drew1 | refine below_set ?_ GE.out) | exact HB.out)⟩
  case true =>
    go_enter Tryd.func10, Tryd.ntmps10
    go_wp2_with (first | ((with_reducible refine gate_dst (N := 1) rfl ?_); refine box_event ?hg (N := 1) ?hd (cs := #[.int .i64 9, .slice (some ad) 1 cp, .bool false]) (t := 29) ?hr ?_; (case hd => rfl); (case hg => rfl); (case hr => first | (go_simp; done) | (go_simp; rfl)); intro gb hg w7 hbox hb; have n0_ := Aside0.mk (below_step (by repeat (first | (with_reducible first | exact HB.out | apply below_alloc | apply pw_below_drewN | apply below_drew1) | exact HB.out)) hb); have BK := Aside0.mk (hbox); have GE := Aside0.mk ((by rw [hg]; exact (below_size (by repeat (first | (with_reducible first | exact HB.out | apply below_alloc | apply pw_below_drewN | apply below_drew1) | exact HB.out))) : w.heap.size ≤ gb)); clear HB; have HB := n0_; clear n0_; clear hb hbox hg; have hcz_0 : w7.cell? ⟨gb, 0, none⟩ = some (.int .i64 9) := (blk_cell BK.out 0).trans rfl; have hcz_1 : w7.cell? ⟨gb, 1, none⟩ = some (.slice (some ad) 1 cp) := (blk_cell BK.out 1).trans rfl; have hcz_2 : w7.cell? ⟨gb, 2, none⟩ = some (.bool false) := (blk_cell BK.out 2).trans rfl; have hfz_0 := blk_frozen BK.out 0; have hfz_1 := blk_frozen BK.out 1; have hfz_2 := blk_frozen BK.out 2; replace hx0 := (HB.out.cell (World.block_lt_of_cell? w _ hx0)).trans hx0) | (go_at_call 20; (with_reducible refine (path_is Ha.out e1 _).mono ?_); rintro e w' ⟨rfl, ⟨nd, rfl⟩⟩))
    repeat (go_quiet (first | (go_at_call 20; with_reducible exact path_quiet Ha.out e1 _ _)); try go_wp2)
    go_ret
    exact ⟨by first | rfl | (simp; done) | (simp [*]; done), by repeat (first | (with_reducible first | exact HB.out | apply below_alloc | apply pw_below_drewN | apply below_drew1 | refine below_set ?_ GE.out) | exact HB.out)⟩

set_option maxHeartbeats 4000000 in
set_option maxRecDepth 100000 in
theorem entry10 (A : Option Addr) (cp : Nat) (a : ByteArray) (w : World) (hr : Kd.C Kd.string w A [a].length [a]) (hcap : [a].length ≤ cp) (ha : a.size ≤ 140737488351232) :
    Calls Tryd.prog 10 #[.agg #[.int .i64 10, .slice A 1 cp, .bool false]] w fun e w' => e = .returned (.bool (dirB a)) ∧ Below w.heap.size w w' := by
  have hu29 := Tryd.underlying29
  have hnil : (⟨#[]⟩ : ByteArray).size ≤ 140737488351232 := by decide
  have Ha := Aside0.mk ha
  clear ha
  have HN := Aside0.mk hnil
  clear hnil
  have HC := Aside0.mk hcap
  clear hcap
  obtain ⟨ad, rfl, hx0⟩ := fields1 hr
  clear hr
  have HB := Aside0.mk (Below.refl w.heap.size w)
  cases e1 : dirB a
  case false =>
    go_enter Tryd.func10, Tryd.ntmps10
    go_wp2_with (first | ((with_reducible refine gate_dst (N := 1) rfl ?_); refine box_event ?hg (N := 1) ?hd (cs := #[.int .i64 10, .slice (some ad) 1 cp, .bool false]) (t := 29) ?hr ?_; (case hd => rfl); (case hg => rfl); (case hr => first | (go_simp; done) | (go_simp; rfl)); intro gb hg w7 hbox hb; have n0_ := Aside0.mk (below_step (by repeat (first | (with_reducible first | exact HB.out | apply below_alloc | apply pw_below_drewN | apply below_drew1) | exact HB.out)) hb); have BK := Aside0.mk (hbox); have GE := Aside0.mk ((by rw [hg]; exact (below_size (by repeat (first | (with_reducible first | exact HB.out | apply below_alloc | apply pw_below_drewN | apply below_drew1) | exact HB.out))) : w.heap.size ≤ gb)); clear HB; have HB := n0_; clear n0_; clear hb hbox hg; have hcz_0 : w7.cell? ⟨gb, 0, none⟩ = some (.int .i64 10) := (blk_cell BK.out 0).trans rfl; have hcz_1 : w7.cell? ⟨gb, 1, none⟩ = some (.slice (some ad) 1 cp) := (blk_cell BK.out 1).trans rfl; have hcz_2 : w7.cell? ⟨gb, 2, none⟩ = some (.bool false) := (blk_cell BK.out 2).trans rfl; have hfz_0 := blk_frozen BK.out 0; have hfz_1 := blk_frozen BK.out 1; have hfz_2 := blk_frozen BK.out 2; replace hx0 := (HB.out.cell (World.block_lt_of_cell? w _ hx0)).trans hx0) | (go_at_call 23; (with_reducible refine (dir_is Ha.out e1 _).mono ?_); rintro e w' ⟨rfl, ⟨nd, rfl⟩⟩))
    repeat (go_quiet (first | (go_at_call 23; with_reducible exact dir_quiet Ha.out e1 _ _)); try go_wp2)
    go_ret
    exact ⟨by first | rfl | (simp; done) | (simp [*]; done), by repeat (first | (with_reducible first | exact HB.out | apply below_alloc | apply pw_below_drewN | apply below_drew1 | refine below_set ?_ GE.out) | exact HB.out)⟩
  case true =>
    go_enter Tryd.func10, Tryd.ntmps10
    go_wp2_with (first | ((with_reducible refine gate_dst (N := 1) rfl ?_); refine box_event ?hg (N := 1) ?hd (cs := #[.int .i64 10, .slice (some ad) 1 cp, .bool false]) (t := 29) ?hr ?_; (case hd => rfl); (case hg => rfl); (case hr => first | (go_simp; done) | (go_simp; rfl)); intro gb hg w7 hbox hb; have n0_ := Aside0.mk (below_step (by repeat (first | (with_reducible first | exact HB.out | apply below_alloc | apply pw_below_drewN | apply below_drew1) | exact HB.out)) hb); have BK := Aside0.mk (hbox); have GE := Aside0.mk ((by rw [hg]; exact (below_size (by repeat (first | (with_reducible first | exact HB.out | apply below_alloc | apply pw_below_drewN | apply below_drew1) | exact HB.out))) : w.heap.size ≤ gb)); clear HB; have HB := n0_; clear n0_; clear hb hbox hg; have hcz_0 : w7.cell? ⟨gb, 0, none⟩ = some (.int .i64 10) := (blk_cell BK.out 0).trans rfl; have hcz_1 : w7.cell? ⟨gb, 1, none⟩ = some (.slice (some ad) 1 cp) := (blk_cell BK.out 1).trans rfl; have hcz_2 : w7.cell? ⟨gb, 2, none⟩ = some (.bool false) := (blk_cell BK.out 2).trans rfl; have hfz_0 := blk_frozen BK.out 0; have hfz_1 := blk_frozen BK.out 1; have hfz_2 := blk_frozen BK.out 2; replace hx0 := (HB.out.cell (World.block_lt_of_cell? w _ hx0)).trans hx0) | (go_at_call 23; (with_reducible refine (dir_is Ha.out e1 _).mono ?_); rintro e w' ⟨rfl, ⟨nd, rfl⟩⟩))
    repeat (go_quiet (first | (go_at_call 23; with_reducible exact dir_quiet Ha.out e1 _ _)); try go_wp2)
    go_ret
    exact ⟨by first | rfl | (simp; done) | (simp [*]; done), by repeat (first | (with_reducible first | exact HB.out | apply below_alloc | apply pw_below_drewN | apply below_drew1 | refine below_set ?_ GE.out) | exact HB.out)⟩

set_option maxHeartbeats 4000000 in
set_option maxRecDepth 100000 in
theorem entry11 (A : Option Addr) (cp : Nat) (a : ByteArray) (w : World) (hr : Kd.C Kd.string w A [a].length [a]) (hcap : [a].length ≤ cp) (ha : a.size ≤ 140737488351232) :
    Calls Tryd.prog 10 #[.agg #[.int .i64 11, .slice A 1 cp, .bool false]] w fun e w' => e = .returned (.bool (dirB a)) ∧ Below w.heap.size w w' := by
  have hu29 := Tryd.underlying29
  have hnil : (⟨#[]⟩ : ByteArray).size ≤ 140737488351232 := by decide
  have Ha := Aside0.mk ha
  clear ha
  have HN := Aside0.mk hnil
  clear hnil
  have HC := Aside0.mk hcap
  clear hcap
  obtain ⟨ad, rfl, hx0⟩ := fields1 hr
  clear hr
  have HB := Aside0.mk (Below.refl w.heap.size w)
  cases e1 : dirB a
  case false =>
    go_enter Tryd.func10, Tryd.ntmps10
    go_wp2_with (first | ((with_reducible refine gate_dst (N := 1) rfl ?_); refine box_event ?hg (N := 1) ?hd (cs := #[.int .i64 11, .slice (some ad) 1 cp, .bool false]) (t := 29) ?hr ?_; (case hd => rfl); (case hg => rfl); (case hr => first | (go_simp; done) | (go_simp; rfl)); intro gb hg w7 hbox hb; have n0_ := Aside0.mk (below_step (by repeat (first | (with_reducible first | exact HB.out | apply below_alloc | apply pw_below_drewN | apply below_drew1) | exact HB.out)) hb); have BK := Aside0.mk (hbox); have GE := Aside0.mk ((by rw [hg]; exact (below_size (by repeat (first | (with_reducible first | exact HB.out | apply below_alloc | apply pw_below_drewN | apply below_drew1) | exact HB.out))) : w.heap.size ≤ gb)); clear HB; have HB := n0_; clear n0_; clear hb hbox hg; have hcz_0 : w7.cell? ⟨gb, 0, none⟩ = some (.int .i64 11) := (blk_cell BK.out 0).trans rfl; have hcz_1 : w7.cell? ⟨gb, 1, none⟩ = some (.slice (some ad) 1 cp) := (blk_cell BK.out 1).trans rfl; have hcz_2 : w7.cell? ⟨gb, 2, none⟩ = some (.bool false) := (blk_cell BK.out 2).trans rfl; have hfz_0 := blk_frozen BK.out 0; have hfz_1 := blk_frozen BK.out 1; have hfz_2 := blk_frozen BK.out 2; replace hx0 := (HB.out.cell (World.block_lt_of_cell? w _ hx0)).trans hx0) | (go_at_call 23; (with_reducible refine (dir_is Ha.out e1 _).mono ?_); rintro e w' ⟨rfl, ⟨nd, rfl⟩⟩))
    repeat (go_quiet (first | (go_at_call 23; with_reducible exact dir_quiet Ha.out e1 _ _)); try go_wp2)
    go_ret
    exact ⟨by first | rfl | (simp; done) | (simp [*]; done), by repeat (first | (with_reducible first | exact HB.out | apply below_alloc | apply pw_below_drewN | apply below_drew1 | refine below_set ?_ GE.out) | exact HB.out)⟩
  case true =>
    go_enter Tryd.func10, Tryd.ntmps10
    go_wp2_with (first | ((with_reducible refine gate_dst (N := 1) rfl ?_); refine box_event ?hg (N := 1) ?hd (cs := #[.int .i64 11, .slice (some ad) 1 cp, .bool false]) (t := 29) ?hr ?_; (case hd => rfl); (case hg => rfl); (case hr => first | (go_simp; done) | (go_simp; rfl)); intro gb hg w7 hbox hb; have n0_ := Aside0.mk (below_step (by repeat (first | (with_reducible first | exact HB.out | apply below_alloc | apply pw_below_drewN | apply below_drew1) | exact HB.out)) hb); have BK := Aside0.mk (hbox); have GE := Aside0.mk ((by rw [hg]; exact (below_size (by repeat (first | (with_reducible first | exact HB.out | apply below_alloc | apply pw_below_drewN | apply below_drew1) | exact HB.out))) : w.heap.size ≤ gb)); clear HB; have HB := n0_; clear n0_; clear hb hbox hg; have hcz_0 : w7.cell? ⟨gb, 0, none⟩ = some (.int .i64 11) := (blk_cell BK.out 0).trans rfl; have hcz_1 : w7.cell? ⟨gb, 1, none⟩ = some (.slice (some ad) 1 cp) := (blk_cell BK.out 1).trans rfl; have hcz_2 : w7.cell? ⟨gb, 2, none⟩ = some (.bool false) := (blk_cell BK.out 2).trans rfl; have hfz_0 := blk_frozen BK.out 0; have hfz_1 := blk_frozen BK.out 1; have hfz_2 := blk_frozen BK.out 2; replace hx0 := (HB.out.cell (World.block_lt_of_cell? w _ hx0)).trans hx0) | (go_at_call 23; (with_reducible refine (dir_is Ha.out e1 _).mono ?_); rintro e w' ⟨rfl, ⟨nd, rfl⟩⟩))
    repeat (go_quiet (first | (go_at_call 23; with_reducible exact dir_quiet Ha.out e1 _ _)); try go_wp2)
    go_ret
    exact ⟨by first | rfl | (simp; done) | (simp [*]; done), by repeat (first | (with_reducible first | exact HB.out | apply below_alloc | apply pw_below_drewN | apply below_drew1 | refine below_set ?_ GE.out) | exact HB.out)⟩
end Go.Proofs.YtikgnlgmidbclaaDoor.Plain
