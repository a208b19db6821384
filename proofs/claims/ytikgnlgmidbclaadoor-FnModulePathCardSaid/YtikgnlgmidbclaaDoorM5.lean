/- The walk of impl.ModulePath: of a text of at most 16384 bytes whose first lines MP tells it returns the module's path. Conditions: MP and the tables of bytes and utf8. -/
import Derived.Test.YtikgnlgmidbclaaDoorM4
namespace Go.Proofs.YtikgnlgmidbclaaDoor.Plain
set_option linter.unusedVariables false
set_option linter.unusedSimpArgs false
open Go.RowKit Go.Proofs.YtikgnlgmidbclaaDoor.PFnModulePath Go.Proofs.YtikgnlgmidbclaaDoorW.PrintWords

theorem world_bytes (W : World) (s : ByteArray) : BytesAt (Lib.bytesWorld W 5 s) W.heap.size 0 s.data.toList := fun i hi => by
  have hs : i < s.size := by rw [Lib.size_eq]; exact hi
  rw [numsB_getD _ _ hi, Nat.zero_add]
  have h := Lib.bytesWorld_cell W 5 s i hs
  rw [h]
  simp [List.getD, List.getElem?_eq_getElem hi]

set_option maxHeartbeats 2000000 in
set_option maxRecDepth 100000 in
theorem impl_walk (s : ByteArray) (R : ByteArray) (k0 : Nat) (hM : MP R k0 s.data.toList) (hs : s.size ≤ 16384) (w : World)
    (htab : Lib.TabIs Tryd.prog w "bytes.asciiSpace" .u8 Lib.asciiSpaceTab) (hU : Lib.Utf8Tabs (Tryd.laysValid_ren.g 3) (Tryd.laysValid_ren.g 4) w) :
    Calls Tryd.prog 6 #[.string s] w fun e w' => e = .returned (.string R) ∧ Below w.heap.size w w' := by
  have hb0 : Below w.heap.size w (Lib.bytesWorld w 5 s) := bytes_below (Below.refl _ _) (Nat.le_refl _) 5 s
  have hl : s.data.toList.length = s.size := (Lib.size_eq s).symm
  have hcap : s.size ≤ grownCap w s.size 0 5 := grownCap_ge w s.size 0 5
  have cm : Calls Tryd.prog 13 #[.slice (some ⟨w.heap.size, 0, none⟩) s.size (grownCap w s.size 0 5)] (Lib.bytesWorld w 5 s) fun e w' => e = .returned (.string R) ∧ Below w.heap.size w w' := by
    have := mp_walk w.heap.size s.data.toList (grownCap w s.size 0 5) (Lib.bytesWorld w 5 s) (by rw [hl]; exact hcap) (by rw [hl]; omega) (world_bytes w s) R k0 hM (tab_below htab hb0) (tabs_below hU hb0)
    rw [hl] at this
    exact this.mono fun e w' h => ⟨h.1, hb0.trans (h.2.mono hb0.size)⟩
  have f1 : decide (16384 < (s.size : Int)) = false := decide_eq_false (by omega)
  have f2 : decide (16384 < s.size) = false := decide_eq_false (by omega)
  have cvt := Lib.run_convert_string_bytes (P := Tryd.prog) w 9 23 5 s Tryd.underlying9 Tryd.underlying23 Tryd.underlying5
  clear hcap hl hM hs hb0 htab hU
  go_enter Tryd.func6, Tryd.ntmps6
  go_wp2_with (first | (go_at_call 13; (with_reducible refine cm.mono ?_); rintro e w' ⟨rfl, hb⟩))
  go_ret
  exact ⟨rfl, hb⟩
end Go.Proofs.YtikgnlgmidbclaaDoor.Plain
