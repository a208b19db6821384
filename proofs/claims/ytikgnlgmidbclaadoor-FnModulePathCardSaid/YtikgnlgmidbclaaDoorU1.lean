/- The walks of strconv.index, contains, unquote and Unquote: of a text of plain ASCII letters in double quotation marks the letters come back. Conditions: the text's bytes (Quoted), and the tables of utf8. -/
import Derived.Test.YtikgnlgmidbclaaDoorShelf
import Derived.Test.YtikgnlgmidbclaaDoorO0
import Derived.Lib.Bytealg
import Derived.Lib.Walk
namespace Go.Proofs.YtikgnlgmidbclaaDoor.Plain
set_option linter.unusedVariables false
set_option linter.unusedSimpArgs false
open Go.RowKit Go.Proofs.YtikgnlgmidbclaaDoorW.PrintWords

set_option maxHeartbeats 1000000 in
set_option maxRecDepth 100000 in
theorem index_any (s : ByteArray) (c : Int) (w : World) :
    Calls Tryd.prog 37 #[.string s, .int .u8 c] w fun e w' => e = .returned (.int .i64 (Lib.indexByte s.data.toList c.toNat.toUInt8)) ∧ w' = w := by
  go_enter Tryd.func37, Tryd.ntmps37
  go_wp2
  rw [run_callFunc_extern Tryd.func48 (by kernel_rfl) (by kernel_rfl) (by kernel_rfl) (e := Extern.BytealgIndexByte.indexByte) (by kernel_rfl), Lib.run_indexByteString]
  simp only [Result.andThen]
  rw [Oper.upon_value]
  go_wp2
  go_ret
  exact ⟨rfl, rfl⟩

set_option maxHeartbeats 1000000 in
set_option maxRecDepth 100000 in
theorem contains_any (s : ByteArray) (c : Int) (r : Int) (w : World) (hr : Lib.indexByte s.data.toList c.toNat.toUInt8 = r) :
    Calls Tryd.prog 38 #[.string s, .int .u8 c] w fun e w' => e = .returned (.bool (r != -1)) ∧ w' = w := by
  have hi := index_any s c
  rw [hr] at hi
  clear hr
  go_enter Tryd.func38, Tryd.ntmps38
  go_wp2_with (go_at_call 37; refine (hi _).mono ?_; rintro e w' ⟨rfl, rfl⟩)
  go_ret
  exact ⟨rfl, rfl⟩
end Go.Proofs.YtikgnlgmidbclaaDoor.Plain
