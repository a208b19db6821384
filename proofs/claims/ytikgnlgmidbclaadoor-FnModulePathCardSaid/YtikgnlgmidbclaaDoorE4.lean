/- The walks of spec.EntryOk where the count of fields, the kind or the mark does not fit: it answers no. No condition. -/
import Derived.Test.YtikgnlgmidbclaaDoorV3
namespace Go.Proofs.YtikgnlgmidbclaaDoor.Plain
set_option linter.unusedVariables false
set_option linter.unusedSimpArgs false
open Go.RowKit Go.Proofs.YtikgnlgmidbclaaDoor.PFnModulePath Go.Proofs.YtikgnlgmidbclaaDoorW.PrintWords Go.Proofs.YtikgnlgmidbclaaDoorW.PrintLast Go.Proofs.YtikgnlgmidbclaaDoorW.PrintMore

set_option maxHeartbeats 4000000 in
set_option maxRecDepth 100000 in
theorem entry1_no (A : Option Addr) (cp : Nat) (fs : List ByteArray) (w : World) (hn : fs.length ≠ 1) :
    Calls Tryd.prog 10 #[.agg #[.int .i64 1, .slice A fs.length cp, .bool false]] w fun e w' => e = .returned (.bool false) ∧ Below w.heap.size w w' := by
  have hu29 := Tryd.underlying29
  have HB := Aside0.mk (Below.refl w.heap.size w)
  have n0 : ((fs.length : Int) == 1) = false := beq_eq_false_iff_ne.mpr (by omega)
  have n1 : ((fs.length : Int) != 1) = true := bne_iff_ne.mpr (by omega)
  have n2 : (fs.length == 1) = false := beq_eq_false_iff_ne.mpr hn
  clear hn
  go_enter Tryd.func10, Tryd.ntmps10
  go_wp2_with (first | ((with_reducible refine gate_dst (N := 1) rfl ?_); refine box_event ?hg (N := 1) ?hd (cs := #[.int .i64 1, .slice A fs.length cp, .bool false]) (t := 29) ?hr ?_; (case hd => rfl); (case hg => rfl); (case hr => first | (go_simp; done) | (go_simp; rfl)); intro gb hg w7 hbox hb; have n0_ := Aside0.mk (below_step (by repeat (first | (with_reducible first | exact HB.out | apply below_alloc | apply pw_below_drewN | apply below_drew1) | exact HB.out)) hb); have BK := Aside0.mk (hbox); have GE := Aside0.mk ((by rw [hg]; exact (below_size (by repeat (first | (with_reducible first | exact HB.out | apply below_alloc | apply pw_below_drewN | apply below_drew1) | exact HB.out))) : w.heap.size ≤ gb)); clear HB; have HB := n0_; clear n0_; clear hb hbox hg; have hcz_0 : w7.cell? ⟨gb, 0, none⟩ = some (.int .i64 1) := (blk_cell BK.out 0).trans rfl; have hcz_1 : w7.cell? ⟨gb, 1, none⟩ = some (.slice A fs.length cp) := (blk_cell BK.out 1).trans rfl; have hcz_2 : w7.cell? ⟨gb, 2, none⟩ = some (.bool false) := (blk_cell BK.out 2).trans rfl; have hfz_0 := blk_frozen BK.out 0; have hfz_1 := blk_frozen BK.out 1; have hfz_2 := blk_frozen BK.out 2))
  repeat (go_quiet (fail); try go_wp2)
  go_ret
  exact ⟨by first | rfl | (simp; done) | (simp [*]; done), by repeat (first | (with_reducible first | exact HB.out | apply below_alloc | apply pw_below_drewN | apply below_drew1 | refine below_set ?_ GE.out) | exact HB.out)⟩

set_option maxHeartbeats 4000000 in
set_option maxRecDepth 100000 in
theorem entry2_no (A : Option Addr) (cp : Nat) (fs : List ByteArray) (w : World) (hn : fs.length ≠ 1) :
    Calls Tryd.prog 10 #[.agg #[.int .i64 2, .slice A fs.length cp, .bool false]] w fun e w' => e = .returned (.bool false) ∧ Below w.heap.size w w' := by
  have hu29 := Tryd.underlying29
  have HB := Aside0.mk (Below.refl w.heap.size w)
  have n0 : ((fs.length : Int) == 1) = false := beq_eq_false_iff_ne.mpr (by omega)
  have n1 : ((fs.length : Int) != 1) = true := bne_iff_ne.mpr (by omega)
  have n2 : (fs.length == 1) = false := beq_eq_false_iff_ne.mpr hn
  clear hn
  go_enter Tryd.func10, Tryd.ntmps10
  go_wp2_with (first | ((with_reducible refine gate_dst (N := 1) rfl ?_); refine box_event ?hg (N := 1) ?hd (cs := #[.int .i64 2, .slice A fs.length cp, .bool false]) (t := 29) ?hr ?_; (case hd => rfl); (case hg => rfl); (case hr => first | (go_simp; done) | (go_simp; rfl)); intro gb hg w7 hbox hb; have n0_ := Aside0.mk (below_step (by repeat (first | (with_reducible first | exact HB.out | apply below_alloc | apply pw_below_drewN | apply below_drew1) | exact HB.out)) hb); have BK := Aside0.mk (hbox); have GE := Aside0.mk ((by rw [hg]; exact (below_size (by repeat (first | (with_reducible first | exact HB.out | apply below_alloc | apply pw_below_drewN | apply below_drew1) | exact HB.out))) : w.heap.size ≤ gb)); clear HB; have HB := n0_; clear n0_; clear hb hbox hg; have hcz_0 : w7.cell? ⟨gb, 0, none⟩ = some (.int .i64 2) := (blk_cell BK.out 0).trans rfl; have hcz_1 : w7.cell? ⟨gb, 1, none⟩ = some (.slice A fs.length cp) := (blk_cell BK.out 1).trans rfl; have hcz_2 : w7.cell? ⟨gb, 2, none⟩ = some (.bool false) := (blk_cell BK.out 2).trans rfl; have hfz_0 := blk_frozen BK.out 0; have hfz_1 := blk_frozen BK.out 1; have hfz_2 := blk_frozen BK.out 2))
  repeat (go_quiet (fail); try go_wp2)
  go_ret
  exact ⟨by first | rfl | (simp; done) | (simp [*]; done), by repeat (first | (with_reducible first | exact HB.out | apply below_alloc | apply pw_below_drewN | apply below_drew1 | refine below_set ?_ GE.out) | exact HB.out)⟩

set_option maxHeartbeats 4000000 in
set_option maxRecDepth 100000 in
theorem entry3_no (A : Option Addr) (cp : Nat) (fs : List ByteArray) (w : World) (hn : fs.length ≠ 1) :
    Calls Tryd.prog 10 #[.agg #[.int .i64 3, .slice A fs.length cp, .bool false]] w fun e w' => e = .returned (.bool false) ∧ Below w.heap.size w w' := by
  have hu29 := Tryd.underlying29
  have HB := Aside0.mk (Below.refl w.heap.size w)
  have n0 : ((fs.length : Int) == 1) = false := beq_eq_false_iff_ne.mpr (by omega)
  have n1 : ((fs.length : Int) != 1) = true := bne_iff_ne.mpr (by omega)
  have n2 : (fs.length == 1) = false := beq_eq_false_iff_ne.mpr hn
  clear hn
  go_enter Tryd.func10, Tryd.ntmps10
  go_wp2_with (first | ((with_reducible refine gate_dst (N := 1) rfl ?_); refine box_event ?hg (N := 1) ?hd (cs := #[.int .i64 3, .slice A fs.length cp, .bool false]) (t := 29) ?hr ?_; (case hd => rfl); (case hg => rfl); (case hr => first | (go_simp; done) | (go_simp; rfl)); intro gb hg w7 hbox hb; have n0_ := Aside0.mk (below_step (by repeat (first | (with_reducible first | exact HB.out | apply below_alloc | apply pw_below_drewN | apply below_drew1) | exact HB.out)) hb); have BK := Aside0.mk (hbox); have GE := Aside0.mk ((by rw [hg]; exact (below_size (by repeat (first | (with_reducible first | exact HB.out | apply below_alloc | apply pw_below_drewN | apply below_drew1) | exact HB.out))) : w.heap.size ≤ gb)); clear HB; have HB := n0_; clear n0_; clear hb hbox hg; have hcz_0 : w7.cell? ⟨gb, 0, none⟩ = some (.int .i64 3) := (blk_cell BK.out 0).trans rfl; have hcz_1 : w7.cell? ⟨gb, 1, none⟩ = some (.slice A fs.length cp) := (blk_cell BK.out 1).trans rfl; have hcz_2 : w7.cell? ⟨gb, 2, none⟩ = some (.bool false) := (blk_cell BK.out 2).trans rfl; have hfz_0 := blk_frozen BK.out 0; have hfz_1 := blk_frozen BK.out 1; have hfz_2 := blk_frozen BK.out 2))
  repeat (go_quiet (fail); try go_wp2)
  go_ret
  exact ⟨by first | rfl | (simp; done) | (simp [*]; done), by repeat (first | (with_reducible first | exact HB.out | apply below_alloc | apply pw_below_drewN | apply below_drew1 | refine below_set ?_ GE.out) | exact HB.out)⟩

set_option maxHeartbeats 4000000 in
set_option maxRecDepth 100000 in
theorem entry4_no (A : Option Addr) (cp : Nat) (fs : List ByteArray) (w : World) (hn : fs.length ≠ 2) :
    Calls Tryd.prog 10 #[.agg #[.int .i64 4, .slice A fs.length cp, .bool false]] w fun e w' => e = .returned (.bool false) ∧ Below w.heap.size w w' := by
  have hu29 := Tryd.underlying29
  have HB := Aside0.mk (Below.refl w.heap.size w)
  have n0 : ((fs.length : Int) == 2) = false := beq_eq_false_iff_ne.mpr (by omega)
  have n1 : ((fs.length : Int) != 2) = true := bne_iff_ne.mpr (by omega)
  have n2 : (fs.length == 2) = false := beq_eq_false_iff_ne.mpr hn
  clear hn
  go_enter Tryd.func10, Tryd.ntmps10
  go_wp2_with (first | ((with_reducible refine gate_dst (N := 1) rfl ?_); refine box_event ?hg (N := 1) ?hd (cs := #[.int .i64 4, .slice A fs.length cp, .bool false]) (t := 29) ?hr ?_; (case hd => rfl); (case hg => rfl); (case hr => first | (go_simp; done) | (go_simp; rfl)); intro gb hg w7 hbox hb; have n0_ := Aside0.mk (below_step (by repeat (first | (with_reducible first | exact HB.out | apply below_alloc | apply pw_below_drewN | apply below_drew1) | exact HB.out)) hb); have BK := Aside0.mk (hbox); have GE := Aside0.mk ((by rw [hg]; exact (below_size (by repeat (first | (with_reducible first | exact HB.out | apply below_alloc | apply pw_below_drewN | apply below_drew1) | exact HB.out))) : w.heap.size ≤ gb)); clear HB; have HB := n0_; clear n0_; clear hb hbox hg; have hcz_0 : w7.cell? ⟨gb, 0, none⟩ = some (.int .i64 4) := (blk_cell BK.out 0).trans rfl; have hcz_1 : w7.cell? ⟨gb, 1, none⟩ = some (.slice A fs.length cp) := (blk_cell BK.out 1).trans rfl; have hcz_2 : w7.cell? ⟨gb, 2, none⟩ = some (.bool false) := (blk_cell BK.out 2).trans rfl; have hfz_0 := blk_frozen BK.out 0; have hfz_1 := blk_frozen BK.out 1; have hfz_2 := blk_frozen BK.out 2))
  repeat (go_quiet (fail); try go_wp2)
  go_ret
  exact ⟨by first | rfl | (simp; done) | (simp [*]; done), by repeat (first | (with_reducible first | exact HB.out | apply below_alloc | apply pw_below_drewN | apply below_drew1 | refine below_set ?_ GE.out) | exact HB.out)⟩

set_option maxHeartbeats 4000000 in
set_option maxRecDepth 100000 in
theorem entry5_no (A : Option Addr) (cp : Nat) (fs : List ByteArray) (w : World) (hn : fs.length ≠ 2) :
    Calls Tryd.prog 10 #[.agg #[.int .i64 5, .slice A fs.length cp, .bool false]] w fun e w' => e = .returned (.bool false) ∧ Below w.heap.size w w' := by
  have hu29 := Tryd.underlying29
  have HB := Aside0.mk (Below.refl w.heap.size w)
  have n0 : ((fs.length : Int) == 2) = false := beq_eq_false_iff_ne.mpr (by omega)
  have n1 : ((fs.length : Int) != 2) = true := bne_iff_ne.mpr (by omega)
  have n2 : (fs.length == 2) = false := beq_eq_false_iff_ne.mpr hn
  clear hn
  go_enter Tryd.func10, Tryd.ntmps10
  go_wp2_with (first | ((with_reducible refine gate_dst (N := 1) rfl ?_); refine box_event ?hg (N := 1) ?hd (cs := #[.int .i64 5, .slice A fs.length cp, .bool false]) (t := 29) ?hr ?_; (case hd => rfl); (case hg => rfl); (case hr => first | (go_simp; done) | (go_simp; rfl)); intro gb hg w7 hbox hb; have n0_ := Aside0.mk (below_step (by repeat (first | (with_reducible first | exact HB.out | apply below_alloc | apply pw_below_drewN | apply below_drew1) | exact HB.out)) hb); have BK := Aside0.mk (hbox); have GE := Aside0.mk ((by rw [hg]; exact (below_size (by repeat (first | (with_reducible first | exact HB.out | apply below_alloc | apply pw_below_drewN | apply below_drew1) | exact HB.out))) : w.heap.size ≤ gb)); clear HB; have HB := n0_; clear n0_; clear hb hbox hg; have hcz_0 : w7.cell? ⟨gb, 0, none⟩ = some (.int .i64 5) := (blk_cell BK.out 0).trans rfl; have hcz_1 : w7.cell? ⟨gb, 1, none⟩ = some (.slice A fs.length cp) := (blk_cell BK.out 1).trans rfl; have hcz_2 : w7.cell? ⟨gb, 2, none⟩ = some (.bool false) := (blk_cell BK.out 2).trans rfl; have hfz_0 := blk_frozen BK.out 0; have hfz_1 := blk_frozen BK.out 1; have hfz_2 := blk_frozen BK.out 2))
  repeat (go_quiet (fail); try go_wp2)
  go_ret
  exact ⟨by first | rfl | (simp; done) | (simp [*]; done), by repeat (first | (with_reducible first | exact HB.out | apply below_alloc | apply pw_below_drewN | apply below_drew1 | refine below_set ?_ GE.out) | exact HB.out)⟩

set_option maxHeartbeats 4000000 in
set_option maxRecDepth 100000 in
theorem entry6_no (A : Option Addr) (cp : Nat) (fs : List ByteArray) (w : World) (hn : fs.length ≠ 2) :
    Calls Tryd.prog 10 #[.agg #[.int .i64 6, .slice A fs.length cp, .bool false]] w fun e w' => e = .returned (.bool false) ∧ Below w.heap.size w w' := by
  have hu29 := Tryd.underlying29
  have HB := Aside0.mk (Below.refl w.heap.size w)
  have n0 : ((fs.length : Int) == 2) = false := beq_eq_false_iff_ne.mpr (by omega)
  have n1 : ((fs.length : Int) != 2) = true := bne_iff_ne.mpr (by omega)
  have n2 : (fs.length == 2) = false := beq_eq_false_iff_ne.mpr hn
  clear hn
  go_enter Tryd.func10, Tryd.ntmps10
  go_wp2_with (first | ((with_reducible refine gate_dst (N := 1) rfl ?_); refine box_event ?hg (N := 1) ?hd (cs := #[.int .i64 6, .slice A fs.length cp, .bool false]) (t := 29) ?hr ?_; (case hd => rfl); (case hg => rfl); (case hr => first | (go_simp; done) | (go_simp; rfl)); intro gb hg w7 hbox hb; have n0_ := Aside0.mk (below_step (by repeat (first | (with_reducible first | exact HB.out | apply below_alloc | apply pw_below_drewN | apply below_drew1) | exact HB.out)) hb); have BK := Aside0.mk (hbox); have GE := Aside0.mk ((by rw [hg]; exact (below_size (by repeat (first | (with_reducible first | exact HB.out | apply below_alloc | apply pw_below_drewN | apply below_drew1) | exact HB.out))) : w.heap.size ≤ gb)); clear HB; have HB := n0_; clear n0_; clear hb hbox hg; have hcz_0 : w7.cell? ⟨gb, 0, none⟩ = some (.int .i64 6) := (blk_cell BK.out 0).trans rfl; have hcz_1 : w7.cell? ⟨gb, 1, none⟩ = some (.slice A fs.length cp) := (blk_cell BK.out 1).trans rfl; have hcz_2 : w7.cell? ⟨gb, 2, none⟩ = some (.bool false) := (blk_cell BK.out 2).trans rfl; have hfz_0 := blk_frozen BK.out 0; have hfz_1 := blk_frozen BK.out 1; have hfz_2 := blk_frozen BK.out 2))
  repeat (go_quiet (fail); try go_wp2)
  go_ret
  exact ⟨by first | rfl | (simp; done) | (simp [*]; done), by repeat (first | (with_reducible first | exact HB.out | apply below_alloc | apply pw_below_drewN | apply below_drew1 | refine below_set ?_ GE.out) | exact HB.out)⟩

set_option maxHeartbeats 4000000 in
set_option maxRecDepth 100000 in
theorem entry7_no (A : Option Addr) (cp : Nat) (fs : List ByteArray) (w : World) (hn : fs.length ≠ 4) :
    Calls Tryd.prog 10 #[.agg #[.int .i64 7, .slice A fs.length cp, .bool false]] w fun e w' => e = .returned (.bool false) ∧ Below w.heap.size w w' := by
  have hu29 := Tryd.underlying29
  have HB := Aside0.mk (Below.refl w.heap.size w)
  have n0 : ((fs.length : Int) == 4) = false := beq_eq_false_iff_ne.mpr (by omega)
  have n1 : ((fs.length : Int) != 4) = true := bne_iff_ne.mpr (by omega)
  have n2 : (fs.length == 4) = false := beq_eq_false_iff_ne.mpr hn
  clear hn
  go_enter Tryd.func10, Tryd.ntmps10
  go_wp2_with (first | ((with_reducible refine gate_dst (N := 1) rfl ?_); refine box_event ?hg (N := 1) ?hd (cs := #[.int .i64 7, .slice A fs.length cp, .bool false]) (t := 29) ?hr ?_; (case hd => rfl); (case hg => rfl); (case hr => first | (go_simp; done) | (go_simp; rfl)); intro gb hg w7 hbox hb; have n0_ := Aside0.mk (below_step (by repeat (first | (with_reducible first | exact HB.out | apply below_alloc | apply pw_below_drewN | apply below_drew1) | exact HB.out)) hb); have BK := Aside0.mk (hbox); have GE := Aside0.mk ((by rw [hg]; exact (below_size (by repeat (first | (with_reducible first | exact HB.out | apply below_alloc | apply pw_below_drewN | apply below_drew1) | exact HB.out))) : w.heap.size ≤ gb)); clear HB; have HB := n0_; clear n0_; clear hb hbox hg; have hcz_0 : w7.cell? ⟨gb, 0, none⟩ = some (.int .i64 7) := (blk_cell BK.out 0).trans rfl; have hcz_1 : w7.cell? ⟨gb, 1, none⟩ = some (.slice A fs.length cp) := (blk_cell BK.out 1).trans rfl; have hcz_2 : w7.cell? ⟨gb, 2, none⟩ = some (.bool false) := (blk_cell BK.out 2).trans rfl; have hfz_0 := blk_frozen BK.out 0; have hfz_1 := blk_frozen BK.out 1; have hfz_2 := blk_frozen BK.out 2))
  repeat (go_quiet (fail); try go_wp2)
  go_ret
  exact ⟨by first | rfl | (simp; done) | (simp [*]; done), by repeat (first | (with_reducible first | exact HB.out | apply below_alloc | apply pw_below_drewN | apply below_drew1 | refine below_set ?_ GE.out) | exact HB.out)⟩

set_option maxHeartbeats 4000000 in
set_option maxRecDepth 100000 in
theorem entry8_no (A : Option Addr) (cp : Nat) (fs : List ByteArray) (w : World) (hn : fs.length ≠ 3) :
    Calls Tryd.prog 10 #[.agg #[.int .i64 8, .slice A fs.length cp, .bool false]] w fun e w' => e = .returned (.bool false) ∧ Below w.heap.size w w' := by
  have hu29 := Tryd.underlying29
  have HB := Aside0.mk (Below.refl w.heap.size w)
  have n0 : ((fs.length : Int) == 3) = false := beq_eq_false_iff_ne.mpr (by omega)
  have n1 : ((fs.length : Int) != 3) = true := bne_iff_ne.mpr (by omega)
  have n2 : (fs.length == 3) = false := beq_eq_false_iff_ne.mpr hn
  clear hn
  go_enter Tryd.func10, Tryd.ntmps10
  go_wp2_with (first | ((with_reducible refine gate_dst (N := 1) rfl ?_); refine box_event ?hg (N := 1) ?hd (cs := #[.int .i64 8, .slice A fs.length cp, .bool false]) (t := 29) ?hr ?_; (case hd => rfl); (case hg => rfl); (case hr => first | (go_simp; done) | (go_simp; rfl)); intro gb hg w7 hbox hb; have n0_ := Aside0.mk (below_step (by repeat (first | (with_reducible first | exact HB.out | apply below_alloc | apply pw_below_drewN | apply below_drew1) | exact HB.out)) hb); have BK := Aside0.mk (hbox); have GE := Aside0.mk ((by rw [hg]; exact (below_size (by repeat (first | (with_reducible first | exact HB.out | apply below_alloc | apply pw_below_drewN | apply below_drew1) | exact HB.out))) : w.heap.size ≤ gb)); clear HB; have HB := n0_; clear n0_; clear hb hbox hg; have hcz_0 : w7.cell? ⟨gb, 0, none⟩ = some (.int .i64 8) := (blk_cell BK.out 0).trans rfl; have hcz_1 : w7.cell? ⟨gb, 1, none⟩ = some (.slice A fs.length cp) := (blk_cell BK.out 1).trans rfl; have hcz_2 : w7.cell? ⟨gb, 2, none⟩ = some (.bool false) := (blk_cell BK.out 2).trans rfl; have hfz_0 := blk_frozen BK.out 0; have hfz_1 := blk_frozen BK.out 1; have hfz_2 := blk_frozen BK.out 2))
  repeat (go_quiet (fail); try go_wp2)
  go_ret
  exact ⟨by first | rfl | (simp; done) | (simp [*]; done), by repeat (first | (with_reducible first | exact HB.out | apply below_alloc | apply pw_below_drewN | apply below_drew1 | refine below_set ?_ GE.out) | exact HB.out)⟩

set_option maxHeartbeats 4000000 in
set_option maxRecDepth 100000 in
theorem entry9_no (A : Option Addr) (cp : Nat) (fs : List ByteArray) (w : World) (hn : fs.length ≠ 1) :
    Calls Tryd.prog 10 #[.agg #[.int .i64 9, .slice A fs.length cp, .bool false]] w fun e w' => e = .returned (.bool false) ∧ Below w.heap.size w w' := by
  have hu29 := Tryd.underlying29
  have HB := Aside0.mk (Below.refl w.heap.size w)
  have n0 : ((fs.length : Int) == 1) = false := beq_eq_false_iff_ne.mpr (by omega)
  have n1 : ((fs.length : Int) != 1) = true := bne_iff_ne.mpr (by omega)
  have n2 : (fs.length == 1) = false := beq_eq_false_iff_ne.mpr hn
  clear hn
  go_enter Tryd.func10, Tryd.ntmps10
  go_wp2_with (first | ((with_reducible refine gate_dst (N := 1) rfl ?_); refine box_event ?hg (N := 1) ?hd (cs := #[.int .i64 9, .slice A fs.length cp, .bool false]) (t := 29) ?hr ?_; (case hd => rfl); (case hg => rfl); (case hr => first | (go_simp; done) | (go_simp; rfl)); intro gb hg w7 hbox hb; have n0_ := Aside0.mk (below_step (by repeat (first | (with_reducible first | exact HB.out | apply below_alloc | apply pw_below_drewN | apply below_drew1) | exact HB.out)) hb); have BK := Aside0.mk (hbox); have GE := Aside0.mk ((by rw [hg]; exact (below_size (by repeat (first | (with_reducible first | exact HB.out | apply below_alloc | apply pw_below_drewN | apply below_drew1) | exact HB.out))) : w.heap.size ≤ gb)); clear HB; have HB := n0_; clear n0_; clear hb hbox hg; have hcz_0 : w7.cell? ⟨gb, 0, none⟩ = some (.int .i64 9) := (blk_cell BK.out 0).trans rfl; have hcz_1 : w7.cell? ⟨gb, 1, none⟩ = some (.slice A fs.length cp) := (blk_cell BK.out 1).trans rfl; have hcz_2 : w7.cell? ⟨gb, 2, none⟩ = some (.bool false) := (blk_cell BK.out 2).trans rfl; have hfz_0 := blk_frozen BK.out 0; have hfz_1 := blk_frozen BK.out 1; have hfz_2 := blk_frozen BK.out 2))
  repeat (go_quiet (fail); try go_wp2)
  go_ret
  exact ⟨by first | rfl | (simp; done) | (simp [*]; done), by repeat (first | (with_reducible first | exact HB.out | apply below_alloc | apply pw_below_drewN | apply below_drew1 | refine below_set ?_ GE.out) | exact HB.out)⟩

set_option maxHeartbeats 4000000 in
set_option maxRecDepth 100000 in
theorem entry10_no (A : Option Addr) (cp : Nat) (fs : List ByteArray) (w : World) (hn : fs.length ≠ 1) :
    Calls Tryd.prog 10 #[.agg #[.int .i64 10, .slice A fs.length cp, .bool false]] w fun e w' => e = .returned (.bool false) ∧ Below w.heap.size w w' := by
  have hu29 := Tryd.underlying29
  have HB := Aside0.mk (Below.refl w.heap.size w)
  have n0 : ((fs.length : Int) == 1) = false := beq_eq_false_iff_ne.mpr (by omega)
  have n1 : ((fs.length : Int) != 1) = true := bne_iff_ne.mpr (by omega)
  have n2 : (fs.length == 1) = false := beq_eq_false_iff_ne.mpr hn
  clear hn
  go_enter Tryd.func10, Tryd.ntmps10
  go_wp2_with (first | ((with_reducible refine gate_dst (N := 1) rfl ?_); refine box_event ?hg (N := 1) ?hd (cs := #[.int .i64 10, .slice A fs.length cp, .bool false]) (t := 29) ?hr ?_; (case hd => rfl); (case hg => rfl); (case hr => first | (go_simp; done) | (go_simp; rfl)); intro gb hg w7 hbox hb; have n0_ := Aside0.mk (below_step (by repeat (first | (with_reducible first | exact HB.out | apply below_alloc | apply pw_below_drewN | apply below_drew1) | exact HB.out)) hb); have BK := Aside0.mk (hbox); have GE := Aside0.mk ((by rw [hg]; exact (below_size (by repeat (first | (with_reducible first | exact HB.out | apply below_alloc | apply pw_below_drewN | apply below_drew1) | exact HB.out))) : w.heap.size ≤ gb)); clear HB; have HB := n0_; clear n0_; clear hb hbox hg; have hcz_0 : w7.cell? ⟨gb, 0, none⟩ = some (.int .i64 10) := (blk_cell BK.out 0).trans rfl; have hcz_1 : w7.cell? ⟨gb, 1, none⟩ = some (.slice A fs.length cp) := (blk_cell BK.out 1).trans rfl; have hcz_2 : w7.cell? ⟨gb, 2, none⟩ = some (.bool false) := (blk_cell BK.out 2).trans rfl; have hfz_0 := blk_frozen BK.out 0; have hfz_1 := blk_frozen BK.out 1; have hfz_2 := blk_frozen BK.out 2))
  repeat (go_quiet (fail); try go_wp2)
  go_ret
  exact ⟨by first | rfl | (simp; done) | (simp [*]; done), by repeat (first | (with_reducible first | exact HB.out | apply below_alloc | apply pw_below_drewN | apply below_drew1 | refine below_set ?_ GE.out) | exact HB.out)⟩

set_option maxHeartbeats 4000000 in
set_option maxRecDepth 100000 in
theorem entry11_no (A : Option Addr) (cp : Nat) (fs : List ByteArray) (w : World) (hn : fs.length ≠ 1) :
    Calls Tryd.prog 10 #[.agg #[.int .i64 11, .slice A fs.length cp, .bool false]] w fun e w' => e = .returned (.bool false) ∧ Below w.heap.size w w' := by
  have hu29 := Tryd.underlying29
  have HB := Aside0.mk (Below.refl w.heap.size w)
  have n0 : ((fs.length : Int) == 1) = false := beq_eq_false_iff_ne.mpr (by omega)
  have n1 : ((fs.length : Int) != 1) = true := bne_iff_ne.mpr (by omega)
  have n2 : (fs.length == 1) = false := beq_eq_false_iff_ne.mpr hn
  clear hn
  go_enter Tryd.func10, Tryd.ntmps10
  go_wp2_with (first | ((with_reducible refine gate_dst (N := 1) rfl ?_); refine box_event ?hg (N := 1) ?hd (cs := #[.int .i64 11, .slice A fs.length cp, .bool false]) (t := 29) ?hr ?_; (case hd => rfl); (case hg => rfl); (case hr => first | (go_simp; done) | (go_simp; rfl)); intro gb hg w7 hbox hb; have n0_ := Aside0.mk (below_step (by repeat (first | (with_reducible first | exact HB.out | apply below_alloc | apply pw_below_drewN | apply below_drew1) | exact HB.out)) hb); have BK := Aside0.mk (hbox); have GE := Aside0.mk ((by rw [hg]; exact (below_size (by repeat (first | (with_reducible first | exact HB.out | apply below_alloc | apply pw_below_drewN | apply below_drew1) | exact HB.out))) : w.heap.size ≤ gb)); clear HB; have HB := n0_; clear n0_; clear hb hbox hg; have hcz_0 : w7.cell? ⟨gb, 0, none⟩ = some (.int .i64 11) := (blk_cell BK.out 0).trans rfl; have hcz_1 : w7.cell? ⟨gb, 1, none⟩ = some (.slice A fs.length cp) := (blk_cell BK.out 1).trans rfl; have hcz_2 : w7.cell? ⟨gb, 2, none⟩ = some (.bool false) := (blk_cell BK.out 2).trans rfl; have hfz_0 := blk_frozen BK.out 0; have hfz_1 := blk_frozen BK.out 1; have hfz_2 := blk_frozen BK.out 2))
  repeat (go_quiet (fail); try go_wp2)
  go_ret
  exact ⟨by first | rfl | (simp; done) | (simp [*]; done), by repeat (first | (with_reducible first | exact HB.out | apply below_alloc | apply pw_below_drewN | apply below_drew1 | refine below_set ?_ GE.out) | exact HB.out)⟩

set_option maxHeartbeats 4000000 in
set_option maxRecDepth 100000 in
theorem entry5i_no (A : Option Addr) (cp : Nat) (fs : List ByteArray) (w : World) (hn : fs.length ≠ 2) :
    Calls Tryd.prog 10 #[.agg #[.int .i64 5, .slice A fs.length cp, .bool true]] w fun e w' => e = .returned (.bool false) ∧ Below w.heap.size w w' := by
  have hu29 := Tryd.underlying29
  have HB := Aside0.mk (Below.refl w.heap.size w)
  have n0 : ((fs.length : Int) == 2) = false := beq_eq_false_iff_ne.mpr (by omega)
  have n1 : ((fs.length : Int) != 2) = true := bne_iff_ne.mpr (by omega)
  have n2 : (fs.length == 2) = false := beq_eq_false_iff_ne.mpr hn
  clear hn
  go_enter Tryd.func10, Tryd.ntmps10
  go_wp2_with (first | ((with_reducible refine gate_dst (N := 1) rfl ?_); refine box_event ?hg (N := 1) ?hd (cs := #[.int .i64 5, .slice A fs.length cp, .bool true]) (t := 29) ?hr ?_; (case hd => rfl); (case hg => rfl); (case hr => first | (go_simp; done) | (go_simp; rfl)); intro gb hg w7 hbox hb; have n0_ := Aside0.mk (below_step (by repeat (first | (with_reducible first | exact HB.out | apply below_alloc | apply pw_below_drewN | apply below_drew1) | exact HB.out)) hb); have BK := Aside0.mk (hbox); have GE := Aside0.mk ((by rw [hg]; exact (below_size (by repeat (first | (with_reducible first | exact HB.out | apply below_alloc | apply pw_below_drewN | apply below_drew1) | exact HB.out))) : w.heap.size ≤ gb)); clear HB; have HB := n0_; clear n0_; clear hb hbox hg; have hcz_0 : w7.cell? ⟨gb, 0, none⟩ = some (.int .i64 5) := (blk_cell BK.out 0).trans rfl; have hcz_1 : w7.cell? ⟨gb, 1, none⟩ = some (.slice A fs.length cp) := (blk_cell BK.out 1).trans rfl; have hcz_2 : w7.cell? ⟨gb, 2, none⟩ = some (.bool true) := (blk_cell BK.out 2).trans rfl; have hfz_0 := blk_frozen BK.out 0; have hfz_1 := blk_frozen BK.out 1; have hfz_2 := blk_frozen BK.out 2))
  repeat (go_quiet (fail); try go_wp2)
  go_ret
  exact ⟨by first | rfl | (simp; done) | (simp [*]; done), by repeat (first | (with_reducible first | exact HB.out | apply below_alloc | apply pw_below_drewN | apply below_drew1 | refine below_set ?_ GE.out) | exact HB.out)⟩

set_option maxHeartbeats 4000000 in
set_option maxRecDepth 100000 in
theorem entry_other (A : Option Addr) (cp : Nat) (k : Int) (fs : List ByteArray) (w : World) (hk : k < 1 ∨ 11 < k) :
    Calls Tryd.prog 10 #[.agg #[.int .i64 k, .slice A fs.length cp, .bool false]] w fun e w' => e = .returned (.bool false) ∧ Below w.heap.size w w' := by
  have hu29 := Tryd.underlying29
  have HB := Aside0.mk (Below.refl w.heap.size w)
  have k1 : (k == 1) = false := beq_eq_false_iff_ne.mpr (by omega)
  have k2 : (k == 2) = false := beq_eq_false_iff_ne.mpr (by omega)
  have k3 : (k == 3) = false := beq_eq_false_iff_ne.mpr (by omega)
  have k4 : (k == 4) = false := beq_eq_false_iff_ne.mpr (by omega)
  have k5 : (k == 5) = false := beq_eq_false_iff_ne.mpr (by omega)
  have k6 : (k == 6) = false := beq_eq_false_iff_ne.mpr (by omega)
  have k7 : (k == 7) = false := beq_eq_false_iff_ne.mpr (by omega)
  have k8 : (k == 8) = false := beq_eq_false_iff_ne.mpr (by omega)
  have k9 : (k == 9) = false := beq_eq_false_iff_ne.mpr (by omega)
  have k10 : (k == 10) = false := beq_eq_false_iff_ne.mpr (by omega)
  have k11 : (k == 11) = false := beq_eq_false_iff_ne.mpr (by omega)
  clear hk
  go_enter Tryd.func10, Tryd.ntmps10
  go_wp2_with (first | ((with_reducible refine gate_dst (N := 1) rfl ?_); refine box_event ?hg (N := 1) ?hd (cs := #[.int .i64 k, .slice A fs.length cp, .bool false]) (t := 29) ?hr ?_; (case hd => rfl); (case hg => rfl); (case hr => first | (go_simp; done) | (go_simp; rfl)); intro gb hg w7 hbox hb; have n0_ := Aside0.mk (below_step (by repeat (first | (with_reducible first | exact HB.out | apply below_alloc | apply pw_below_drewN | apply below_drew1) | exact HB.out)) hb); have BK := Aside0.mk (hbox); have GE := Aside0.mk ((by rw [hg]; exact (below_size (by repeat (first | (with_reducible first | exact HB.out | apply below_alloc | apply pw_below_drewN | apply below_drew1) | exact HB.out))) : w.heap.size ≤ gb)); clear HB; have HB := n0_; clear n0_; clear hb hbox hg; have hcz_0 : w7.cell? ⟨gb, 0, none⟩ = some (.int .i64 k) := (blk_cell BK.out 0).trans rfl; have hcz_1 : w7.cell? ⟨gb, 1, none⟩ = some (.slice A fs.length cp) := (blk_cell BK.out 1).trans rfl; have hcz_2 : w7.cell? ⟨gb, 2, none⟩ = some (.bool false) := (blk_cell BK.out 2).trans rfl; have hfz_0 := blk_frozen BK.out 0; have hfz_1 := blk_frozen BK.out 1; have hfz_2 := blk_frozen BK.out 2))
  repeat (go_quiet (fail); try go_wp2)
  go_ret
  exact ⟨by first | rfl | (simp; done) | (simp [*]; done), by repeat (first | (with_reducible first | exact HB.out | apply below_alloc | apply pw_below_drewN | apply below_drew1 | refine below_set ?_ GE.out) | exact HB.out)⟩

set_option maxHeartbeats 4000000 in
set_option maxRecDepth 100000 in
theorem entry_mark (A : Option Addr) (cp : Nat) (k : Int) (fs : List ByteArray) (w : World) (hk : k ≠ 5) :
    Calls Tryd.prog 10 #[.agg #[.int .i64 k, .slice A fs.length cp, .bool true]] w fun e w' => e = .returned (.bool false) ∧ Below w.heap.size w w' := by
  have hu29 := Tryd.underlying29
  have HB := Aside0.mk (Below.refl w.heap.size w)
  have k0 : (k != 5) = true := bne_iff_ne.mpr hk
  have k1 : (k == 5) = false := beq_eq_false_iff_ne.mpr hk
  clear hk
  go_enter Tryd.func10, Tryd.ntmps10
  go_wp2_with (first | ((with_reducible refine gate_dst (N := 1) rfl ?_); refine box_event ?hg (N := 1) ?hd (cs := #[.int .i64 k, .slice A fs.length cp, .bool true]) (t := 29) ?hr ?_; (case hd => rfl); (case hg => rfl); (case hr => first | (go_simp; done) | (go_simp; rfl)); intro gb hg w7 hbox hb; have n0_ := Aside0.mk (below_step (by repeat (first | (with_reducible first | exact HB.out | apply below_alloc | apply pw_below_drewN | apply below_drew1) | exact HB.out)) hb); have BK := Aside0.mk (hbox); have GE := Aside0.mk ((by rw [hg]; exact (below_size (by repeat (first | (with_reducible first | exact HB.out | apply below_alloc | apply pw_below_drewN | apply below_drew1) | exact HB.out))) : w.heap.size ≤ gb)); clear HB; have HB := n0_; clear n0_; clear hb hbox hg; have hcz_0 : w7.cell? ⟨gb, 0, none⟩ = some (.int .i64 k) := (blk_cell BK.out 0).trans rfl; have hcz_1 : w7.cell? ⟨gb, 1, none⟩ = some (.slice A fs.length cp) := (blk_cell BK.out 1).trans rfl; have hcz_2 : w7.cell? ⟨gb, 2, none⟩ = some (.bool true) := (blk_cell BK.out 2).trans rfl; have hfz_0 := blk_frozen BK.out 0; have hfz_1 := blk_frozen BK.out 1; have hfz_2 := blk_frozen BK.out 2))
  repeat (go_quiet (fail); try go_wp2)
  go_ret
  exact ⟨by first | rfl | (simp; done) | (simp [*]; done), by repeat (first | (with_reducible first | exact HB.out | apply below_alloc | apply pw_below_drewN | apply below_drew1 | refine below_set ?_ GE.out) | exact HB.out)⟩
end Go.Proofs.YtikgnlgmidbclaaDoor.Plain
