/- The walks of spec.EntryOk at the kinds of two and three fields: each answers what entryB says. Condition: fields of at most 2^47 - 4096 bytes. -/
import Derived.Test.YtikgnlgmidbclaaDoorV3
namespace Go.Proofs.YtikgnlgmidbclaaDoor.Plain
set_option linter.unusedVariables false
set_option linter.unusedSimpArgs false
open Go.RowKit Go.Proofs.YtikgnlgmidbclaaDoor.PFnModulePath Go.Proofs.YtikgnlgmidbclaaDoorW.PrintWords Go.Proofs.YtikgnlgmidbclaaDoorW.PrintLast Go.Proofs.YtikgnlgmidbclaaDoorW.PrintMore

set_option maxHeartbeats 4000000 in
set_option maxRecDepth 100000 in
theorem entry4 (A : Option Addr) (cp : Nat) (a b : ByteArray) (w : World) (hr : Kd.C Kd.string w A [a, b].length [a, b]) (hcap : [a, b].length ≤ cp) (ha : a.size ≤ 140737488351232) (hb : b.size ≤ 140737488351232) :
    Calls Tryd.prog 10 #[.agg #[.int .i64 4, .slice A 2 cp, .bool false]] w fun e w' => e = .returned (.bool (wordB a && wordB b)) ∧ Below w.heap.size w w' := by
  have hu29 := Tryd.underlying29
  have hnil : (⟨#[]⟩ : ByteArray).size ≤ 140737488351232 := by decide
  have Ha := Aside0.mk ha
  clear ha
  have Hb := Aside0.mk hb
  clear hb
  have HN := Aside0.mk hnil
  clear hnil
  have HC := Aside0.mk hcap
  clear hcap
  obtain ⟨ad, rfl, hx0, hx1⟩ := fields2 hr
  clear hr
  have HB := Aside0.mk (Below.refl w.heap.size w)
  cases e1 : wordB a
  case false =>
    go_enter Tryd.func10, Tryd.ntmps10
    go_wp2_with (first | ((with_reducible refine gate_dst (N := 1) rfl ?_); refine box_event ?hg (N := 1) ?hd (cs := #[.int .i64 4, .slice (some ad) 2 cp, .bool false]) (t := 29) ?hr ?_; (case hd => rfl); (case hg => rfl); (case hr => first | (go_simp; done) | (go_simp; rfl)); intro gb hg w7 hbox hb; have n0_ := Aside0.mk (below_step (by repeat (first | (with_reducible first | exact HB.out | apply below_alloc | apply pw_below_drewN | apply below_drew1) | exact HB.out)) hb); have BK := Aside0.mk (hbox); have GE := Aside0.mk ((by rw [hg]; exact (below_size (by repeat (first | (with_reducible first | exact HB.out | apply below_alloc | apply pw_below_drewN | apply below_drew1) | exact HB.out))) : w.heap.size ≤ gb)); clear HB; have HB := n0_; clear n0_; clear hb hbox hg; have hcz_0 : w7.cell? ⟨gb, 0, none⟩ = some (.int .i64 4) := (blk_cell BK.out 0).trans rfl; have hcz_1 : w7.cell? ⟨gb, 1, none⟩ = some (.slice (some ad) 2 cp) := (blk_cell BK.out 1).trans rfl; have hcz_2 : w7.cell? ⟨gb, 2, none⟩ = some (.bool false) := (blk_cell BK.out 2).trans rfl; have hfz_0 := blk_frozen BK.out 0; have hfz_1 := blk_frozen BK.out 1; have hfz_2 := blk_frozen BK.out 2; replace hx0 := (HB.out.cell (World.block_lt_of_cell? w _ hx0)).trans hx0; replace hx1 := (HB.out.cell (World.block_lt_of_cell? w _ hx1)).trans hx1) | (go_at_call 22; (with_reducible refine (word_is Ha.out e1 _).mono ?_); rintro e w' ⟨rfl, ⟨nd, rfl⟩⟩))
    repeat (go_quiet (first | (go_at_call 22; with_reducible exact word_quiet Ha.out e1 _ _)); try go_wp2)
    go_ret
    exact ⟨by first | rfl | (simp; done) | (simp [*]; done), by repeat (first | (with_reducible first | exact HB.out | apply below_alloc | apply pw_below_drewN | apply below_drew1 | refine below_set ?_ GE.out) | exact HB.out)⟩
  case true =>
    cases e2 : wordB b
    case false =>
      go_enter Tryd.func10, Tryd.ntmps10
      go_wp2_with (first | ((with_reducible refine gate_dst (N := 1) rfl ?_); refine box_event ?hg (N := 1) ?hd (cs := #[.int .i64 4, .slice (some ad) 2 cp, .bool false]) (t := 29) ?hr ?_; (case hd => rfl); (case hg => rfl); (case hr => first | (go_simp; done) | (go_simp; rfl)); intro gb hg w7 hbox hb; have n0_ := Aside0.mk (below_step (by repeat (first | (with_reducible first | exact HB.out | apply below_alloc | apply pw_below_drewN | apply below_drew1) | exact HB.out)) hb); have BK := Aside0.mk (hbox); have GE := Aside0.mk ((by rw [hg]; exact (below_size (by repeat (first | (with_reducible first | exact HB.out | apply below_alloc | apply pw_below_drewN | apply below_drew1) | exact HB.out))) : w.heap.size ≤ gb)); clear HB; have HB := n0_; clear n0_; clear hb hbox hg; have hcz_0 : w7.cell? ⟨gb, 0, none⟩ = some (.int .i64 4) := (blk_cell BK.out 0).trans rfl; have hcz_1 : w7.cell? ⟨gb, 1, none⟩ = some (.slice (some ad) 2 cp) := (blk_cell BK.out 1).trans rfl; have hcz_2 : w7.cell? ⟨gb, 2, none⟩ = some (.bool false) := (blk_cell BK.out 2).trans rfl; have hfz_0 := blk_frozen BK.out 0; have hfz_1 := blk_frozen BK.out 1; have hfz_2 := blk_frozen BK.out 2; replace hx0 := (HB.out.cell (World.block_lt_of_cell? w _ hx0)).trans hx0; replace hx1 := (HB.out.cell (World.block_lt_of_cell? w _ hx1)).trans hx1) | (go_at_call 22; (with_reducible refine (word_is Ha.out e1 _).mono ?_); rintro e w' ⟨rfl, ⟨nd, rfl⟩⟩) | (go_at_call 22; (with_reducible refine (word_is Hb.out e2 _).mono ?_); rintro e w' ⟨rfl, ⟨nd, rfl⟩⟩))
      repeat (go_quiet (first | (go_at_call 22; with_reducible exact word_quiet Ha.out e1 _ _) | (go_at_call 22; with_reducible exact word_quiet Hb.out e2 _ _)); try go_wp2)
      go_ret
      exact ⟨by first | rfl | (simp; done) | (simp [*]; done), by repeat (first | (with_reducible first | exact HB.out | apply below_alloc | apply pw_below_drewN | apply below_drew1 | refine below_set ?_ GE.out) | exact HB.out)⟩
    case true =>
      go_enter Tryd.func10, Tryd.ntmps10
      go_wp2_with (first | ((with_reducible refine gate_dst (N := 1) rfl ?_); refine box_event ?hg (N := 1) ?hd (cs := #[.int .i64 4, .slice (some ad) 2 cp, .bool false]) (t := 29) ?hr ?_; (case hd => rfl); (case hg => rfl); (case hr => first | (go_simp; done) | (go_simp; rfl)); intro gb hg w7 hbox hb; have n0_ := Aside0.mk (below_step (by repeat (first | (with_reducible first | exact HB.out | apply below_alloc | apply pw_below_drewN | apply below_drew1) | exact HB.out)) hb); have BK := Aside0.mk (hbox); have GE := Aside0.mk ((by rw [hg]; exact (below_size (by repeat (first | (with_reducible first | exact HB.out | apply below_alloc | apply pw_below_drewN | apply below_drew1) | exact HB.out))) : w.heap.size ≤ gb)); clear HB; have HB := n0_; clear n0_; clear hb hbox hg; have hcz_0 : w7.cell? ⟨gb, 0, none⟩ = some (.int .i64 4) := (blk_cell BK.out 0).trans rfl; have hcz_1 : w7.cell? ⟨gb, 1, none⟩ = some (.slice (some ad) 2 cp) := (blk_cell BK.out 1).trans rfl; have hcz_2 : w7.cell? ⟨gb, 2, none⟩ = some (.bool false) := (blk_cell BK.out 2).trans rfl; have hfz_0 := blk_frozen BK.out 0; have hfz_1 := blk_frozen BK.out 1; have hfz_2 := blk_frozen BK.out 2; replace hx0 := (HB.out.cell (World.block_lt_of_cell? w _ hx0)).trans hx0; replace hx1 := (HB.out.cell (World.block_lt_of_cell? w _ hx1)).trans hx1) | (go_at_call 22; (with_reducible refine (word_is Ha.out e1 _).mono ?_); rintro e w' ⟨rfl, ⟨nd, rfl⟩⟩) | (go_at_call 22; (with_reducible refine (word_is Hb.out e2 _).mono ?_); rintro e w' ⟨rfl, ⟨nd, rfl⟩⟩))
      repeat (go_quiet (first | (go_at_call 22; with_reducible exact word_quiet Ha.out e1 _ _) | (go_at_call 22; with_reducible exact word_quiet Hb.out e2 _ _)); try go_wp2)
      go_ret
      exact ⟨by first | rfl | (simp; done) | (simp [*]; done), by repeat (first | (with_reducible first | exact HB.out | apply below_alloc | apply pw_below_drewN | apply below_drew1 | refine below_set ?_ GE.out) | exact HB.out)⟩

set_option maxHeartbeats 4000000 in
set_option maxRecDepth 100000 in
theorem entry5 (A : Option Addr) (cp : Nat) (a b : ByteArray) (w : World) (hr : Kd.C Kd.string w A [a, b].length [a, b]) (hcap : [a, b].length ≤ cp) (ha : a.size ≤ 140737488351232) (hb : b.size ≤ 140737488351232) :
    Calls Tryd.prog 10 #[.agg #[.int .i64 5, .slice A 2 cp, .bool false]] w fun e w' => e = .returned (.bool (pathB a && verB a b)) ∧ Below w.heap.size w w' := by
  have hu29 := Tryd.underlying29
  have hnil : (⟨#[]⟩ : ByteArray).size ≤ 140737488351232 := by decide
  have Ha := Aside0.mk ha
  clear ha
  have Hb := Aside0.mk hb
  clear hb
  have HN := Aside0.mk hnil
  clear hnil
  have HC := Aside0.mk hcap
  clear hcap
  obtain ⟨ad, rfl, hx0, hx1⟩ := fields2 hr
  clear hr
  have HB := Aside0.mk (Below.refl w.heap.size w)
  cases e1 : pathB a
  case false =>
    go_enter Tryd.func10, Tryd.ntmps10
    go_wp2_with (first | ((with_reducible refine gate_dst (N := 1) rfl ?_); refine box_event ?hg (N := 1) ?hd (cs := #[.int .i64 5, .slice (some ad) 2 cp, .bool false]) (t := 29) ?hr ?_; (case hd => rfl); (case hg => rfl); (case hr => first | (go_simp; done) | (go_simp; rfl)); intro gb hg w7 hbox hb; have n0_ := Aside0.mk (below_step (by repeat (first | (with_reducible first | exact HB.out | apply below_alloc | apply pw_below_drewN | apply below_drew1) | exact HB.out)) hb); have BK := Aside0.mk (hbox); have GE := Aside0.mk ((by rw [hg]; exact (below_size (by repeat (first | (with_reducible first | exact HB.out | apply below_alloc | apply pw_below_drewN | apply below_drew1) | exact HB.out))) : w.heap.size ≤ gb)); clear HB; have HB := n0_; clear n0_; clear hb hbox hg; have hcz_0 : w7.cell? ⟨gb, 0, none⟩ = some (.int .i64 5) := (blk_cell BK.out 0).trans rfl; have hcz_1 : w7.cell? ⟨gb, 1, none⟩ = some (.slice (some ad) 2 cp) := (blk_cell BK.out 1).trans rfl; have hcz_2 : w7.cell? ⟨gb, 2, none⟩ = some (.bool false) := (blk_cell BK.out 2).trans rfl; have hfz_0 := blk_frozen BK.out 0; have hfz_1 := blk_frozen BK.out 1; have hfz_2 := blk_frozen BK.out 2; replace hx0 := (HB.out.cell (World.block_lt_of_cell? w _ hx0)).trans hx0; replace hx1 := (HB.out.cell (World.block_lt_of_cell? w _ hx1)).trans hx1) | (go_at_call 20; (with_reducible refine (path_is Ha.out e1 _).mono ?_); rintro e w' ⟨rfl, ⟨nd, rfl⟩⟩))
    repeat (go_quiet (first | (go_at_call 20; with_reducible exact path_quiet Ha.out e1 _ _)); try go_wp2)
    go_ret
    exact ⟨by first | rfl | (simp; done) | (simp [*]; done), by repeat (first | (with_reducible first | exact HB.out | apply below_alloc | apply pw_below_drewN | apply below_drew1 | refine below_set ?_ GE.out) | exact HB.out)⟩
  case true =>
    cases e2 : verB a b
    case false =>
      go_enter Tryd.func10, Tryd.ntmps10
      go_wp2_with (first | ((with_reducible refine gate_dst (N := 1) rfl ?_); refine box_event ?hg (N := 1) ?hd (cs := #[.int .i64 5, .slice (some ad) 2 cp, .bool false]) (t := 29) ?hr ?_; (case hd => rfl); (case hg => rfl); (case hr => first | (go_simp; done) | (go_simp; rfl)); intro gb hg w7 hbox hb; have n0_ := Aside0.mk (below_step (by repeat (first | (with_reducible first | exact HB.out | apply below_alloc | apply pw_below_drewN | apply below_drew1) | exact HB.out)) hb); have BK := Aside0.mk (hbox); have GE := Aside0.mk ((by rw [hg]; exact (below_size (by repeat (first | (with_reducible first | exact HB.out | apply below_alloc | apply pw_below_drewN | apply below_drew1) | exact HB.out))) : w.heap.size ≤ gb)); clear HB; have HB := n0_; clear n0_; clear hb hbox hg; have hcz_0 : w7.cell? ⟨gb, 0, none⟩ = some (.int .i64 5) := (blk_cell BK.out 0).trans rfl; have hcz_1 : w7.cell? ⟨gb, 1, none⟩ = some (.slice (some ad) 2 cp) := (blk_cell BK.out 1).trans rfl; have hcz_2 : w7.cell? ⟨gb, 2, none⟩ = some (.bool false) := (blk_cell BK.out 2).trans rfl; have hfz_0 := blk_frozen BK.out 0; have hfz_1 := blk_frozen BK.out 1; have hfz_2 := blk_frozen BK.out 2; replace hx0 := (HB.out.cell (World.block_lt_of_cell? w _ hx0)).trans hx0; replace hx1 := (HB.out.cell (World.block_lt_of_cell? w _ hx1)).trans hx1) | (go_at_call 20; (with_reducible refine (path_is Ha.out e1 _).mono ?_); rintro e w' ⟨rfl, ⟨nd, rfl⟩⟩) | (go_at_call 11; (with_reducible refine (ver_is Ha.out e2 _).mono ?_); rintro e w' ⟨rfl, ⟨nd, rfl⟩⟩))
      repeat (go_quiet (first | (go_at_call 20; with_reducible exact path_quiet Ha.out e1 _ _) | (go_at_call 11; with_reducible exact ver_quiet Ha.out e2 _ _)); try go_wp2)
      go_ret
      exact ⟨by first | rfl | (simp; done) | (simp [*]; done), by repeat (first | (with_reducible first | exact HB.out | apply below_alloc | apply pw_below_drewN | apply below_drew1 | refine below_set ?_ GE.out) | exact HB.out)⟩
    case true =>
      go_enter Tryd.func10, Tryd.ntmps10
      go_wp2_with (first | ((with_reducible refine gate_dst (N := 1) rfl ?_); refine box_event ?hg (N := 1) ?hd (cs := #[.int .i64 5, .slice (some ad) 2 cp, .bool false]) (t := 29) ?hr ?_; (case hd => rfl); (case hg => rfl); (case hr => first | (go_simp; done) | (go_simp; rfl)); intro gb hg w7 hbox hb; have n0_ := Aside0.mk (below_step (by repeat (first | (with_reducible first | exact HB.out | apply below_alloc | apply pw_below_drewN | apply below_drew1) | exact HB.out)) hb); have BK := Aside0.mk (hbox); have GE := Aside0.mk ((by rw [hg]; exact (below_size (by repeat (first | (with_reducible first | exact HB.out | apply below_alloc | apply pw_below_drewN | apply below_drew1) | exact HB.out))) : w.heap.size ≤ gb)); clear HB; have HB := n0_; clear n0_; clear hb hbox hg; have hcz_0 : w7.cell? ⟨gb, 0, none⟩ = some (.int .i64 5) := (blk_cell BK.out 0).trans rfl; have hcz_1 : w7.cell? ⟨gb, 1, none⟩ = some (.slice (some ad) 2 cp) := (blk_cell BK.out 1).trans rfl; have hcz_2 : w7.cell? ⟨gb, 2, none⟩ = some (.bool false) := (blk_cell BK.out 2).trans rfl; have hfz_0 := blk_frozen BK.out 0; have hfz_1 := blk_frozen BK.out 1; have hfz_2 := blk_frozen BK.out 2; replace hx0 := (HB.out.cell (World.block_lt_of_cell? w _ hx0)).trans hx0; replace hx1 := (HB.out.cell (World.block_lt_of_cell? w _ hx1)).trans hx1) | (go_at_call 20; (with_reducible refine (path_is Ha.out e1 _).mono ?_); rintro e w' ⟨rfl, ⟨nd, rfl⟩⟩) | (go_at_call 11; (with_reducible refine (ver_is Ha.out e2 _).mono ?_); rintro e w' ⟨rfl, ⟨nd, rfl⟩⟩))
      repeat (go_quiet (first | (go_at_call 20; with_reducible exact path_quiet Ha.out e1 _ _) | (go_at_call 11; with_reducible exact ver_quiet Ha.out e2 _ _)); try go_wp2)
      go_ret
      exact ⟨by first | rfl | (simp; done) | (simp [*]; done), by repeat (first | (with_reducible first | exact HB.out | apply below_alloc | apply pw_below_drewN | apply below_drew1 | refine below_set ?_ GE.out) | exact HB.out)⟩

set_option maxHeartbeats 4000000 in
set_option maxRecDepth 100000 in
theorem entry5i (A : Option Addr) (cp : Nat) (a b : ByteArray) (w : World) (hr : Kd.C Kd.string w A [a, b].length [a, b]) (hcap : [a, b].length ≤ cp) (ha : a.size ≤ 140737488351232) (hb : b.size ≤ 140737488351232) :
    Calls Tryd.prog 10 #[.agg #[.int .i64 5, .slice A 2 cp, .bool true]] w fun e w' => e = .returned (.bool (pathB a && verB a b)) ∧ Below w.heap.size w w' := by
  have hu29 := Tryd.underlying29
  have hnil : (⟨#[]⟩ : ByteArray).size ≤ 140737488351232 := by decide
  have Ha := Aside0.mk ha
  clear ha
  have Hb := Aside0.mk hb
  clear hb
  have HN := Aside0.mk hnil
  clear hnil
  have HC := Aside0.mk hcap
  clear hcap
  obtain ⟨ad, rfl, hx0, hx1⟩ := fields2 hr
  clear hr
  have HB := Aside0.mk (Below.refl w.heap.size w)
  cases e1 : pathB a
  case false =>
    go_enter Tryd.func10, Tryd.ntmps10
    go_wp2_with (first | ((with_reducible refine gate_dst (N := 1) rfl ?_); refine box_event ?hg (N := 1) ?hd (cs := #[.int .i64 5, .slice (some ad) 2 cp, .bool true]) (t := 29) ?hr ?_; (case hd => rfl); (case hg => rfl); (case hr => first | (go_simp; done) | (go_simp; rfl)); intro gb hg w7 hbox hb; have n0_ := Aside0.mk (below_step (by repeat (first | (with_reducible first | exact HB.out | apply below_alloc | apply pw_below_drewN | apply below_drew1) | exact HB.out)) hb); have BK := Aside0.mk (hbox); have GE := Aside0.mk ((by rw [hg]; exact (below_size (by repeat (first | (with_reducible first | exact HB.out | apply below_alloc | apply pw_below_drewN | apply below_drew1) | exact HB.out))) : w.heap.size ≤ gb)); clear HB; have HB := n0_; clear n0_; clear hb hbox hg; have hcz_0 : w7.cell? ⟨gb, 0, none⟩ = some (.int .i64 5) := (blk_cell BK.out 0).trans rfl; have hcz_1 : w7.cell? ⟨gb, 1, none⟩ = some (.slice (some ad) 2 cp) := (blk_cell BK.out 1).trans rfl; have hcz_2 : w7.cell? ⟨gb, 2, none⟩ = some (.bool true) := (blk_cell BK.out 2).trans rfl; have hfz_0 := blk_frozen BK.out 0; have hfz_1 := blk_frozen BK.out 1; have hfz_2 := blk_frozen BK.out 2; replace hx0 := (HB.out.cell (World.block_lt_of_cell? w _ hx0)).trans hx0; replace hx1 := (HB.out.cell (World.block_lt_of_cell? w _ hx1)).trans hx1) | (go_at_call 20; (with_reducible refine (path_is Ha.out e1 _).mono ?_); rintro e w' ⟨rfl, ⟨nd, rfl⟩⟩))
    repeat (go_quiet (first | (go_at_call 20; with_reducible exact path_quiet Ha.out e1 _ _)); try go_wp2)
    go_ret
    exact ⟨by first | rfl | (simp; done) | (simp [*]; done), by repeat (first | (with_reducible first | exact HB.out | apply below_alloc | apply pw_below_drewN | apply below_drew1 | refine below_set ?_ GE.out) | exact HB.out)⟩
  case true =>
    cases e2 : verB a b
    case false =>
      go_enter Tryd.func10, Tryd.ntmps10
      go_wp2_with (first | ((with_reducible refine gate_dst (N := 1) rfl ?_); refine box_event ?hg (N := 1) ?hd (cs := #[.int .i64 5, .slice (some ad) 2 cp, .bool true]) (t := 29) ?hr ?_; (case hd => rfl); (case hg => rfl); (case hr => first | (go_simp; done) | (go_simp; rfl)); intro gb hg w7 hbox hb; have n0_ := Aside0.mk (below_step (by repeat (first | (with_reducible first | exact HB.out | apply below_alloc | apply pw_below_drewN | apply below_drew1) | exact HB.out)) hb); have BK := Aside0.mk (hbox); have GE := Aside0.mk ((by rw [hg]; exact (below_size (by repeat (first | (with_reducible first | exact HB.out | apply below_alloc | apply pw_below_drewN | apply below_drew1) | exact HB.out))) : w.heap.size ≤ gb)); clear HB; have HB := n0_; clear n0_; clear hb hbox hg; have hcz_0 : w7.cell? ⟨gb, 0, none⟩ = some (.int .i64 5) := (blk_cell BK.out 0).trans rfl; have hcz_1 : w7.cell? ⟨gb, 1, none⟩ = some (.slice (some ad) 2 cp) := (blk_cell BK.out 1).trans rfl; have hcz_2 : w7.cell? ⟨gb, 2, none⟩ = some (.bool true) := (blk_cell BK.out 2).trans rfl; have hfz_0 := blk_frozen BK.out 0; have hfz_1 := blk_frozen BK.out 1; have hfz_2 := blk_frozen BK.out 2; replace hx0 := (HB.out.cell (World.block_lt_of_cell? w _ hx0)).trans hx0; replace hx1 := (HB.out.cell (World.block_lt_of_cell? w _ hx1)).trans hx1) | (go_at_call 20; (with_reducible refine (path_is Ha.out e1 _).mono ?_); rintro e w' ⟨rfl, ⟨nd, rfl⟩⟩) | (go_at_call 11; (with_reducible refine (ver_is Ha.out e2 _).mono ?_); rintro e w' ⟨rfl, ⟨nd, rfl⟩⟩))
      repeat (go_quiet (first | (go_at_call 20; with_reducible exact path_quiet Ha.out e1 _ _) | (go_at_call 11; with_reducible exact ver_quiet Ha.out e2 _ _)); try go_wp2)
      go_ret
      exact ⟨by first | rfl | (simp; done) | (simp [*]; done), by repeat (first | (with_reducible first | exact HB.out | apply below_alloc | apply pw_below_drewN | apply below_drew1 | refine below_set ?_ GE.out) | exact HB.out)⟩
    case true =>
      go_enter Tryd.func10, Tryd.ntmps10
      go_wp2_with (first | ((with_reducible refine gate_dst (N := 1) rfl ?_); refine box_event ?hg (N := 1) ?hd (cs := #[.int .i64 5, .slice (some ad) 2 cp, .bool true]) (t := 29) ?hr ?_; (case hd => rfl); (case hg => rfl); (case hr => first | (go_simp; done) | (go_simp; rfl)); intro gb hg w7 hbox hb; have n0_ := Aside0.mk (below_step (by repeat (first | (with_reducible first | exact HB.out | apply below_alloc | apply pw_below_drewN | apply below_drew1) | exact HB.out)) hb); have BK := Aside0.mk (hbox); have GE := Aside0.mk ((by rw [hg]; exact (below_size (by repeat (first | (with_reducible first | exact HB.out | apply below_alloc | apply pw_below_drewN | apply below_drew1) | exact HB.out))) : w.heap.size ≤ gb)); clear HB; have HB := n0_; clear n0_; clear hb hbox hg; have hcz_0 : w7.cell? ⟨gb, 0, none⟩ = some (.int .i64 5) := (blk_cell BK.out 0).trans rfl; have hcz_1 : w7.cell? ⟨gb, 1, none⟩ = some (.slice (some ad) 2 cp) := (blk_cell BK.out 1).trans rfl; have hcz_2 : w7.cell? ⟨gb, 2, none⟩ = some (.bool true) := (blk_cell BK.out 2).trans rfl; have hfz_0 := blk_frozen BK.out 0; have hfz_1 := blk_frozen BK.out 1; have hfz_2 := blk_frozen BK.out 2; replace hx0 := (HB.out.cell (World.block_lt_of_cell? w _ hx0)).trans hx0; replace hx1 := (HB.out.cell (World.block_lt_of_cell? w _ hx1)).trans hx1) | (go_at_call 20; (with_reducible refine (path_is Ha.out e1 _).mono ?_); rintro e w' ⟨rfl, ⟨nd, rfl⟩⟩) | (go_at_call 11; (with_reducible refine (ver_is Ha.out e2 _).mono ?_); rintro e w' ⟨rfl, ⟨nd, rfl⟩⟩))
      repeat (go_quiet (first | (go_at_call 20; with_reducible exact path_quiet Ha.out e1 _ _) | (go_at_call 11; with_reducible exact ver_quiet Ha.out e2 _ _)); try go_wp2)
      go_ret
      exact ⟨by first | rfl | (simp; done) | (simp [*]; done), by repeat (first | (with_reducible first | exact HB.out | apply below_alloc | apply pw_below_drewN | apply below_drew1 | refine below_set ?_ GE.out) | exact HB.out)⟩

set_option maxHeartbeats 4000000 in
set_option maxRecDepth 100000 in
theorem entry6 (A : Option Addr) (cp : Nat) (a b : ByteArray) (w : World) (hr : Kd.C Kd.string w A [a, b].length [a, b]) (hcap : [a, b].length ≤ cp) (ha : a.size ≤ 140737488351232) (hb : b.size ≤ 140737488351232) :
    Calls Tryd.prog 10 #[.agg #[.int .i64 6, .slice A 2 cp, .bool false]] w fun e w' => e = .returned (.bool (pathB a && verB a b)) ∧ Below w.heap.size w w' := by
  have hu29 := Tryd.underlying29
  have hnil : (⟨#[]⟩ : ByteArray).size ≤ 140737488351232 := by decide
  have Ha := Aside0.mk ha
  clear ha
  have Hb := Aside0.mk hb
  clear hb
  have HN := Aside0.mk hnil
  clear hnil
  have HC := Aside0.mk hcap
  clear hcap
  obtain ⟨ad, rfl, hx0, hx1⟩ := fields2 hr
  clear hr
  have HB := Aside0.mk (Below.refl w.heap.size w)
  cases e1 : pathB a
  case false =>
    go_enter Tryd.func10, Tryd.ntmps10
    go_wp2_with (first | ((with_reducible refine gate_dst (N := 1) rfl ?_); refine box_event ?hg (N := 1) ?hd (cs := #[.int .i64 6, .slice (some ad) 2 cp, .bool false]) (t := 29) ?hr ?_; (case hd => rfl); (case hg => rfl); (case hr => first | (go_simp; done) | (go_simp; rfl)); intro gb hg w7 hbox hb; have n0_ := Aside0.mk (below_step (by repeat (first | (with_reducible first | exact HB.out | apply below_alloc | apply pw_below_drewN | apply below_drew1) | exact HB.out)) hb); have BK := Aside0.mk (hbox); have GE := Aside0.mk ((by rw [hg]; exact (below_size (by repeat (first | (with_reducible first | exact HB.out | apply below_alloc | apply pw_below_drewN | apply below_drew1) | exact HB.out))) : w.heap.size ≤ gb)); clear HB; have HB := n0_; clear n0_; clear hb hbox hg; have hcz_0 : w7.cell? ⟨gb, 0, none⟩ = some (.int .i64 6) := (blk_cell BK.out 0).trans rfl; have hcz_1 : w7.cell? ⟨gb, 1, none⟩ = some (.slice (some ad) 2 cp) := (blk_cell BK.out 1).trans rfl; have hcz_2 : w7.cell? ⟨gb, 2, none⟩ = some (.bool false) := (blk_cell BK.out 2).trans rfl; have hfz_0 := blk_frozen BK.out 0; have hfz_1 := blk_frozen BK.out 1; have hfz_2 := blk_frozen BK.out 2; replace hx0 := (HB.out.cell (World.block_lt_of_cell? w _ hx0)).trans hx0; replace hx1 := (HB.out.cell (World.block_lt_of_cell? w _ hx1)).trans hx1) | (go_at_call 20; (with_reducible refine (path_is Ha.out e1 _).mono ?_); rintro e w' ⟨rfl, ⟨nd, rfl⟩⟩))
    repeat (go_quiet (first | (go_at_call 20; with_reducible exact path_quiet Ha.out e1 _ _)); try go_wp2)
    go_ret
    exact ⟨by first | rfl | (simp; done) | (simp [*]; done), by repeat (first | (with_reducible first | exact HB.out | apply below_alloc | apply pw_below_drewN | apply below_drew1 | refine below_set ?_ GE.out) | exact HB.out)⟩
  case true =>
    cases e2 : verB a b
    case false =>
      go_enter Tryd.func10, Tryd.ntmps10
      go_wp2_with (first | ((with_reducible refine gate_dst (N := 1) rfl ?_); refine box_event ?hg (N := 1) ?hd (cs := #[.int .i64 6, .slice (some ad) 2 cp, .bool false]) (t := 29) ?hr ?_; (case hd => rfl); (case hg => rfl); (case hr => first | (go_simp; done) | (go_simp; rfl)); intro gb hg w7 hbox hb; have n0_ := Aside0.mk (below_step (by repeat (first | (with_reducible first | exact HB.out | apply below_alloc | apply pw_below_drewN | apply below_drew1) | exact HB.out)) hb); have BK := Aside0.mk (hbox); have GE := Aside0.mk ((by rw [hg]; exact (below_size (by repeat (first | (with_reducible first | exact HB.out | apply below_alloc | apply pw_below_drewN | apply below_drew1) | exact HB.out))) : w.heap.size ≤ gb)); clear HB; have HB := n0_; clear n0_; clear hb hbox hg; have hcz_0 : w7.cell? ⟨gb, 0, none⟩ = some (.int .i64 6) := (blk_cell BK.out 0).trans rfl; have hcz_1 : w7.cell? ⟨gb, 1, none⟩ = some (.slice (some ad) 2 cp) := (blk_cell BK.out 1).trans rfl; have hcz_2 : w7.cell? ⟨gb, 2, none⟩ = some (.bool false) := (blk_cell BK.out 2).trans rfl; have hfz_0 := blk_frozen BK.out 0; have hfz_1 := blk_frozen BK.out 1; have hfz_2 := blk_frozen BK.out 2; replace hx0 := (HB.out.cell (World.block_lt_of_cell? w _ hx0)).trans hx0; replace hx1 := (HB.out.cell (World.block_lt_of_cell? w _ hx1)).trans hx1) | (go_at_call 20; (with_reducible refine (path_is Ha.out e1 _).mono ?_); rintro e w' ⟨rfl, ⟨nd, rfl⟩⟩) | (go_at_call 11; (with_reducible refine (ver_is Ha.out e2 _).mono ?_); rintro e w' ⟨rfl, ⟨nd, rfl⟩⟩))
      repeat (go_quiet (first | (go_at_call 20; with_reducible exact path_quiet Ha.out e1 _ _) | (go_at_call 11; with_reducible exact ver_quiet Ha.out e2 _ _)); try go_wp2)
      go_ret
      exact ⟨by first | rfl | (simp; done) | (simp [*]; done), by repeat (first | (with_reducible first | exact HB.out | apply below_alloc | apply pw_below_drewN | apply below_drew1 | refine below_set ?_ GE.out) | exact HB.out)⟩
    case true =>
      go_enter Tryd.func10, Tryd.ntmps10
      go_wp2_with (first | ((with_reducible refine gate_dst (N := 1) rfl ?_); refine box_event ?hg (N := 1) ?hd (cs := #[.int .i64 6, .slice (some ad) 2 cp, .bool false]) (t := 29) ?hr ?_; (case hd => rfl); (case hg => rfl); (case hr => first | (go_simp; done) | (go_simp; rfl)); intro gb hg w7 hbox hb; have n0_ := Aside0.mk (below_step (by repeat (first | (with_reducible first | exact HB.out | apply below_alloc | apply pw_below_drewN | apply below_drew1) | exact HB.out)) hb); have BK := Aside0.mk (hbox); have GE := Aside0.mk ((by rw [hg]; exact (below_size (by repeat (first | (with_reducible first | exact HB.out | apply below_alloc | apply pw_below_drewN | apply below_drew1) | exact HB.out))) : w.heap.size ≤ gb)); clear HB; have HB := n0_; clear n0_; clear hb hbox hg; have hcz_0 : w7.cell? ⟨gb, 0, none⟩ = some (.int .i64 6) := (blk_cell BK.out 0).trans rfl; have hcz_1 : w7.cell? ⟨gb, 1, none⟩ = some (.slice (some ad) 2 cp) := (blk_cell BK.out 1).trans rfl; have hcz_2 : w7.cell? ⟨gb, 2, none⟩ = some (.bool false) := (blk_cell BK.out 2).trans rfl; have hfz_0 := blk_frozen BK.out 0; have hfz_1 := blk_frozen BK.out 1; have hfz_2 := blk_frozen BK.out 2; replace hx0 := (HB.out.cell (World.block_lt_of_cell? w _ hx0)).trans hx0; replace hx1 := (HB.out.cell (World.block_lt_of_cell? w _ hx1)).trans hx1) | (go_at_call 20; (with_reducible refine (path_is Ha.out e1 _).mono ?_); rintro e w' ⟨rfl, ⟨nd, rfl⟩⟩) | (go_at_call 11; (with_reducible refine (ver_is Ha.out e2 _).mono ?_); rintro e w' ⟨rfl, ⟨nd, rfl⟩⟩))
      repeat (go_quiet (first | (go_at_call 20; with_reducible exact path_quiet Ha.out e1 _ _) | (go_at_call 11; with_reducible exact ver_quiet Ha.out e2 _ _)); try go_wp2)
      go_ret
      exact ⟨by first | rfl | (simp; done) | (simp [*]; done), by repeat (first | (with_reducible first | exact HB.out | apply below_alloc | apply pw_below_drewN | apply below_drew1 | refine below_set ?_ GE.out) | exact HB.out)⟩

set_option maxHeartbeats 4000000 in
set_option maxRecDepth 100000 in
theorem entry8 (A : Option Addr) (cp : Nat) (a b c : ByteArray) (w : World) (hr : Kd.C Kd.string w A [a, b, c].length [a, b, c]) (hcap : [a, b, c].length ≤ cp) (ha : a.size ≤ 140737488351232) (hb : b.size ≤ 140737488351232) (hc : c.size ≤ 140737488351232) :
    Calls Tryd.prog 10 #[.agg #[.int .i64 8, .slice A 3 cp, .bool false]] w fun e w' => e = .returned (.bool ((c.toList == ([] : List UInt8)) && verB ⟨#[]⟩ a && verB ⟨#[]⟩ b)) ∧ Below w.heap.size w w' := by
  have hu29 := Tryd.underlying29
  have hnil : (⟨#[]⟩ : ByteArray).size ≤ 140737488351232 := by decide
  have Ha := Aside0.mk ha
  clear ha
  have Hb := Aside0.mk hb
  clear hb
  have Hc := Aside0.mk hc
  clear hc
  have HN := Aside0.mk hnil
  clear hnil
  have HC := Aside0.mk hcap
  clear hcap
  obtain ⟨ad, rfl, hx0, hx1, hx2⟩ := fields3 hr
  clear hr
  have HB := Aside0.mk (Below.refl w.heap.size w)
  by_cases e1 : (c).toList = ([] : List UInt8)
  · have Q1 := Aside0.mk e1
    have e1b0 : ((c).toList == ([] : List UInt8)) = true := beq_iff_eq.mpr e1
    have e1b1 : ((c).toList != ([] : List UInt8)) = false := bne_eq_false_iff_eq.mpr e1
    have e1b2 : ((c).toList.isEmpty) = true := by rw [e1]; rfl
    clear e1
    cases e2 : verB (⟨#[]⟩ : ByteArray) a
    case false =>
      go_enter Tryd.func10, Tryd.ntmps10
      go_wp2_with (first | ((with_reducible refine gate_dst (N := 1) rfl ?_); refine box_event ?hg (N := 1) ?hd (cs := #[.int .i64 8, .slice (some ad) 3 cp, .bool false]) (t := 29) ?hr ?_; (case hd => rfl); (case hg => rfl); (case hr => first | (go_simp; done) | (go_simp; rfl)); intro gb hg w7 hbox hb; have n0_ := Aside0.mk (below_step (by repeat (first | (with_reducible first | exact HB.out | apply below_alloc | apply pw_below_drewN | apply below_drew1) | exact HB.out)) hb); have BK := Aside0.mk (hbox); have GE := Aside0.mk ((by rw [hg]; exact (below_size (by repeat (first | (with_reducible first | exact HB.out | apply below_alloc | apply pw_below_drewN | apply below_drew1) | exact HB.out))) : w.heap.size ≤ gb)); clear HB; have HB := n0_; clear n0_; clear hb hbox hg; have hcz_0 : w7.cell? ⟨gb, 0, none⟩ = some (.int .i64 8) := (blk_cell BK.out 0).trans rfl; have hcz_1 : w7.cell? ⟨gb, 1, none⟩ = some (.slice (some ad) 3 cp) := (blk_cell BK.out 1).trans rfl; have hcz_2 : w7.cell? ⟨gb, 2, none⟩ = some (.bool false) := (blk_cell BK.out 2).trans rfl; have hfz_0 := blk_frozen BK.out 0; have hfz_1 := blk_frozen BK.out 1; have hfz_2 := blk_frozen BK.out 2; replace hx0 := (HB.out.cell (World.block_lt_of_cell? w _ hx0)).trans hx0; replace hx1 := (HB.out.cell (World.block_lt_of_cell? w _ hx1)).trans hx1; replace hx2 := (HB.out.cell (World.block_lt_of_cell? w _ hx2)).trans hx2) | (go_at_call 11; (with_reducible refine (ver_is HN.out e2 _).mono ?_); rintro e w' ⟨rfl, ⟨nd, rfl⟩⟩))
      repeat (go_quiet (first | (go_at_call 11; with_reducible exact ver_quiet HN.out e2 _ _)); try go_wp2)
      go_ret
      exact ⟨by first | rfl | (simp; done) | (simp [*]; done), by repeat (first | (with_reducible first | exact HB.out | apply below_alloc | apply pw_below_drewN | apply below_drew1 | refine below_set ?_ GE.out) | exact HB.out)⟩
    case true =>
      cases e3 : verB (⟨#[]⟩ : ByteArray) b
      case false =>
        go_enter Tryd.func10, Tryd.ntmps10
        go_wp2_with (first | ((with_reducible refine gate_dst (N := 1) rfl ?_); refine box_event ?hg (N := 1) ?hd (cs := #[.int .i64 8, .slice (some ad) 3 cp, .bool false]) (t := 29) ?hr ?_; (case hd => rfl); (case hg => rfl); (case hr => first | (go_simp; done) | (go_simp; rfl)); intro gb hg w7 hbox hb; have n0_ := Aside0.mk (below_step (by repeat (first | (with_reducible first | exact HB.out | apply below_alloc | apply pw_below_drewN | apply below_drew1) | exact HB.out)) hb); have BK := Aside0.mk (hbox); have GE := Aside0.mk ((by rw [hg]; exact (below_size (by repeat (first | (with_reducible first | exact HB.out | apply below_alloc | apply pw_below_drewN | apply below_drew1) | exact HB.out))) : w.heap.size ≤ gb)); clear HB; have HB := n0_; clear n0_; clear hb hbox hg; have hcz_0 : w7.cell? ⟨gb, 0, none⟩ = some (.int .i64 8) := (blk_cell BK.out 0).trans rfl; have hcz_1 : w7.cell? ⟨gb, 1, none⟩ = some (.slice (some ad) 3 cp) := (blk_cell BK.out 1).trans rfl; have hcz_2 : w7.cell? ⟨gb, 2, none⟩ = some (.bool false) := (blk_cell BK.out 2).trans rfl; have hfz_0 := blk_frozen BK.out 0; have hfz_1 := blk_frozen BK.out 1; have hfz_2 := blk_frozen BK.out 2; replace hx0 := (HB.out.cell (World.block_lt_of_cell? w _ hx0)).trans hx0; replace hx1 := (HB.out.cell (World.block_lt_of_cell? w _ hx1)).trans hx1; replace hx2 := (HB.out.cell (World.block_lt_of_cell? w _ hx2)).trans hx2) | (go_at_call 11; (with_reducible refine (ver_is HN.out e2 _).mono ?_); rintro e w' ⟨rfl, ⟨nd, rfl⟩⟩) | (go_at_call 11; (with_reducible refine (ver_is HN.out e3 _).mono ?_); rintro e w' ⟨rfl, ⟨nd, rfl⟩⟩))
        repeat (go_quiet (first | (go_at_call 11; with_reducible exact ver_quiet HN.out e2 _ _) | (go_at_call 11; with_reducible exact ver_quiet HN.out e3 _ _)); try go_wp2)
        go_ret
        exact ⟨by first | rfl | (simp; done) | (simp [*]; done), by repeat (first | (with_reducible first | exact HB.out | apply below_alloc | apply pw_below_drewN | apply below_drew1 | refine below_set ?_ GE.out) | exact HB.out)⟩
      case true =>
        go_enter Tryd.func10, Tryd.ntmps10
        go_wp2_with (first | ((with_reducible refine gate_dst (N := 1) rfl ?_); refine box_event ?hg (N := 1) ?hd (cs := #[.int .i64 8, .slice (some ad) 3 cp, .bool false]) (t := 29) ?hr ?_; (case hd => rfl); (case hg => rfl); (case hr => first | (go_simp; done) | (go_simp; rfl)); intro gb hg w7 hbox hb; have n0_ := Aside0.mk (below_step (by repeat (first | (with_reducible first | exact HB.out | apply below_alloc | apply pw_below_drewN | apply below_drew1) | exact HB.out)) hb); have BK := Aside0.mk (hbox); have GE := Aside0.mk ((by rw [hg]; exact (below_size (by repeat (first | (with_reducible first | exact HB.out | apply below_alloc | apply pw_below_drewN | apply below_drew1) | exact HB.out))) : w.heap.size ≤ gb)); clear HB; have HB := n0_; clear n0_; clear hb hbox hg; have hcz_0 : w7.cell? ⟨gb, 0, none⟩ = some (.int .i64 8) := (blk_cell BK.out 0).trans rfl; have hcz_1 : w7.cell? ⟨gb, 1, none⟩ = some (.slice (some ad) 3 cp) := (blk_cell BK.out 1).trans rfl; have hcz_2 : w7.cell? ⟨gb, 2, none⟩ = some (.bool false) := (blk_cell BK.out 2).trans rfl; have hfz_0 := blk_frozen BK.out 0; have hfz_1 := blk_frozen BK.out 1; have hfz_2 := blk_frozen BK.out 2; replace hx0 := (HB.out.cell (World.block_lt_of_cell? w _ hx0)).trans hx0; replace hx1 := (HB.out.cell (World.block_lt_of_cell? w _ hx1)).trans hx1; replace hx2 := (HB.out.cell (World.block_lt_of_cell? w _ hx2)).trans hx2) | (go_at_call 11; (with_reducible refine (ver_is HN.out e2 _).mono ?_); rintro e w' ⟨rfl, ⟨nd, rfl⟩⟩) | (go_at_call 11; (with_reducible refine (ver_is HN.out e3 _).mono ?_); rintro e w' ⟨rfl, ⟨nd, rfl⟩⟩))
        repeat (go_quiet (first | (go_at_call 11; with_reducible exact ver_quiet HN.out e2 _ _) | (go_at_call 11; with_reducible exact ver_quiet HN.out e3 _ _)); try go_wp2)
        go_ret
        exact ⟨by first | rfl | (simp; done) | (simp [*]; done), by repeat (first | (with_reducible first | exact HB.out | apply below_alloc | apply pw_below_drewN | apply below_drew1 | refine below_set ?_ GE.out) | exact HB.out)⟩
  · have Q1 := Aside0.mk e1
    have e1b0 : ((c).toList == ([] : List UInt8)) = false := beq_eq_false_iff_ne.mpr e1
    have e1b1 : ((c).toList != ([] : List UInt8)) = true := bne_iff_ne.mpr e1
    have e1b2 : ((c).toList.isEmpty) = false := by simpa using e1
    go_enter Tryd.func10, Tryd.ntmps10
    go_wp2_with (first | ((with_reducible refine gate_dst (N := 1) rfl ?_); refine box_event ?hg (N := 1) ?hd (cs := #[.int .i64 8, .slice (some ad) 3 cp, .bool false]) (t := 29) ?hr ?_; (case hd => rfl); (case hg => rfl); (case hr => first | (go_simp; done) | (go_simp; rfl)); intro gb hg w7 hbox hb; have n0_ := Aside0.mk (below_step (by repeat (first | (with_reducible first | exact HB.out | apply below_alloc | apply pw_below_drewN | apply below_drew1) | exact HB.out)) hb); have BK := Aside0.mk (hbox); have GE := Aside0.mk ((by rw [hg]; exact (below_size (by repeat (first | (with_reducible first | exact HB.out | apply below_alloc | apply pw_below_drewN | apply below_drew1) | exact HB.out))) : w.heap.size ≤ gb)); clear HB; have HB := n0_; clear n0_; clear hb hbox hg; have hcz_0 : w7.cell? ⟨gb, 0, none⟩ = some (.int .i64 8) := (blk_cell BK.out 0).trans rfl; have hcz_1 : w7.cell? ⟨gb, 1, none⟩ = some (.slice (some ad) 3 cp) := (blk_cell BK.out 1).trans rfl; have hcz_2 : w7.cell? ⟨gb, 2, none⟩ = some (.bool false) := (blk_cell BK.out 2).trans rfl; have hfz_0 := blk_frozen BK.out 0; have hfz_1 := blk_frozen BK.out 1; have hfz_2 := blk_frozen BK.out 2; replace hx0 := (HB.out.cell (World.block_lt_of_cell? w _ hx0)).trans hx0; replace hx1 := (HB.out.cell (World.block_lt_of_cell? w _ hx1)).trans hx1; replace hx2 := (HB.out.cell (World.block_lt_of_cell? w _ hx2)).trans hx2))
    repeat (go_quiet (fail); try go_wp2)
    go_ret
    exact ⟨by first | rfl | (simp; done) | (simp [*]; done), by repeat (first | (with_reducible first | exact HB.out | apply below_alloc | apply pw_below_drewN | apply below_drew1 | refine below_set ?_ GE.out) | exact HB.out)⟩
end Go.Proofs.YtikgnlgmidbclaaDoor.Plain
