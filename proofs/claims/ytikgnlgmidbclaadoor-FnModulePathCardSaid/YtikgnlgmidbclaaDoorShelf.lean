/-
  DERIVED: THE SHELF's CONTRACTS AT THIS DUMP, IN PLAIN WORDS (tools/lay-plain.mjs out of 'YtikgnlgmidbclaaDoorShelf0.lean', which tools/lay-shelf.mjs wrote): THE SAME DECLARATIONS UNDER THE SAME NAMES: 'import', 'namespace', 'open', 'def', 'theorem' AND NOTHING ELSE: no command of the shelf's: FOR A HAND-IN. Each laying: the table of numbers ('.._ren') and one theorem, a field a fact of the dump's own or the kernel's comparison; each contract: ONE APPLICATION.
-/
import Derived.Shelf.Bytes.SlSmallAll
import Derived.Shelf.Bytes.Small
import Derived.Shelf.Bytes.TrimSpace
import Derived.Shelf.Unicode.ValidAny
import Derived.Ground.NamesProg
import Derived.Test.YtikgnlgmidbclaaDoorProg
namespace Go.Proofs
open Go.Shelf
def Tryd.laysnb116_ren : Go.Shelf.Ren := ⟨fun | 116 => 27 | 115 => 32 | n => n, fun | 37 => 23 | 4 => 4 | 3 => 3 | 9 => 9 | 5 => 5 | n => n, fun | n => n⟩
theorem Tryd.laysnb116 : Go.Proofs.Lays.nb116 Tryd.prog Tryd.laysnb116_ren := {
  mixed := by kernel_rfl
  f115 := Tryd.func32.trans (congrArg some (by kernel_rfl))
  f116 := Tryd.func27.trans (congrArg some (by kernel_rfl))
  t3 := Tryd.underlying3
  a3 := Tryd.isAgg3
  z3 := Tryd.sizeOf3
  v3 := Tryd.zeroValue3
  t4 := Tryd.underlying4
  a4 := Tryd.isAgg4
  z4 := Tryd.sizeOf4
  v4 := Tryd.zeroValue4
  t9 := Tryd.underlying9
  a9 := Tryd.isAgg9
  z9 := Tryd.sizeOf9
  v9 := Tryd.zeroValue9
  t37 := Tryd.underlying23
  a37 := Tryd.isAgg23
  z37 := Tryd.sizeOf23
  v37 := Tryd.zeroValue23
  t5 := Tryd.underlying5
  a5 := Tryd.isAgg5
  z5 := Tryd.sizeOf5
  v5 := Tryd.zeroValue5 }
theorem Tryd.bytes_HasPrefix_e2 (p1 p2 : Option Addr) (n c d : Nat) (w : World) :
    Calls Tryd.prog 27 #[.slice p1 n c, .slice p2 0 d] w fun e w' => e = .returned (.bool true) ∧ w' = w := Any.bytes_HasPrefix_e2 Tryd.laysnb116 p1 p2 n c d w
theorem Tryd.bytes_HasPrefix_e1 (p1 p2 : Option Addr) (c m d : Nat) (hm : 0 < m) (w : World) :
    Calls Tryd.prog 27 #[.slice p1 0 c, .slice p2 m d] w fun e w' => e = .returned (.bool false) ∧ w' = w := Any.bytes_HasPrefix_e1 Tryd.laysnb116 p1 p2 c m d hm w
/-- bytes.HasPrefix: WHOLE: each argument nil, or of no byte at whatever address, or at an address with its cells. (LAID: no walk: one application.) -/
theorem Tryd.bytes_HasPrefix_all (p1 p2 : Option Addr) (n c m d : Nat) (xs ys : List Int) (w : World) (hx : xs.length = n) (hy : ys.length = m) (hnc : n ≤ c) (h1 : Lib.BytesIn w p1 n xs) (h2 : Lib.BytesIn w p2 m ys) :
    Calls Tryd.prog 27 #[.slice p1 n c, .slice p2 m d] w fun e w' => e = .returned (.bool (Lib.hasPrefix (Lib.bytesOf xs) (Lib.bytesOf ys))) ∧ w' = w := Any.bytes_HasPrefix_all Tryd.laysnb116 p1 p2 n c m d xs ys w hx hy hnc h1 h2
def Tryd.lays115_ren : Go.Shelf.Ren := ⟨fun | 115 => 32 | n => n, fun | 37 => 23 | 4 => 4 | 9 => 9 | 5 => 5 | n => n, fun | n => n⟩
theorem Tryd.lays115 : Go.Proofs.Lays.n115 Tryd.prog Tryd.lays115_ren := {
  mixed := by kernel_rfl
  f115 := Tryd.func32.trans (congrArg some (by kernel_rfl))
  t4 := Tryd.underlying4
  a4 := Tryd.isAgg4
  z4 := Tryd.sizeOf4
  v4 := Tryd.zeroValue4
  t9 := Tryd.underlying9
  a9 := Tryd.isAgg9
  z9 := Tryd.sizeOf9
  v9 := Tryd.zeroValue9
  t37 := Tryd.underlying23
  a37 := Tryd.isAgg23
  z37 := Tryd.sizeOf23
  v37 := Tryd.zeroValue23 }
/-- bytes.Equal: "Equal reports whether a and b are the same length and contain the same bytes. A nil argument is equivalent to an empty slice.": IT RETURNS 'the bytes of the one == the bytes of the other'; the world is as it was. THE TWO ARGUMENTS COME AS WHATEVER VALUES, each with the one fact that the walk wants of it: what 'string(..)' of it gives: for a slice whose cells you know: 'run_convert_bytes_arg' (Derived/Laws/BytesArg.lean) hands that fact; for a nil one: 'run_convert_bytes_nil' (with xs := []). (LAID: no walk: one application.) -/
theorem Tryd.bytes_Equal (v1 v2 : Value) (xs ys : List Int) (w : World) (h1 : (convert 23 9 v1).run Tryd.prog w = .ok (.string (strOfNums xs)) w) (h2 : (convert 23 9 v2).run Tryd.prog w = .ok (.string (strOfNums ys)) w) :
    Calls Tryd.prog 32 #[v1, v2] w fun e w' => e = .returned (.bool (Lib.bytesOf xs == Lib.bytesOf ys)) ∧ w' = w := Any.bytes_Equal Tryd.lays115 v1 v2 xs ys w h1 h2
/-- bytes.HasPrefix: "HasPrefix reports whether the byte slice s begins with prefix.": IT RETURNS 'Lib.hasPrefix (the bytes of s) (the bytes of prefix)'; the world is as it was. ITS CALLEE bytes.Equal IS MET BY ITS OWN CONTRACT OFF THE SHELF (lay that first). 'xs', 'ys': the numbers that the two slices' cells hold. (LAID: no walk: one application.) -/
theorem Tryd.bytes_HasPrefix (b1 o1 n c b2 o2 m d : Nat) (xs ys : List Int) (w : World) (hx : xs.length = n) (hy : ys.length = m) (hnc : n ≤ c) (hc1 : ∀ i, i < n → w.cell? ⟨b1, o1 + i, none⟩ = some (.int .u8 (xs.getD i 0))) (hc2 : ∀ i, i < m → w.cell? ⟨b2, o2 + i, none⟩ = some (.int .u8 (ys.getD i 0))) :
    Calls Tryd.prog 27 #[.slice (some ⟨b1, o1, none⟩) n c, .slice (some ⟨b2, o2, none⟩) m d] w fun e w' => e = .returned (.bool (Lib.hasPrefix (Lib.bytesOf xs) (Lib.bytesOf ys))) ∧ w' = w := Any.bytes_HasPrefix Tryd.laysnb116 b1 o1 n c b2 o2 m d xs ys w hx hy hnc hc1 hc2
def Tryd.laysbs188_ren : Go.Shelf.Ren := ⟨fun | 188 => 26 | 256 => 30 | 199 => 31 | 293 => 35 | 292 => 34 | 261 => 36 | 327 => 45 | 325 => 43 | 326 => 44 | 311 => 46 | 312 => 47 | 341 => 54 | 342 => 55 | 120 => 56 | n => n, fun | 37 => 23 | 3 => 3 | 0 => 0 | 5 => 5 | 4 => 4 | 40 => 51 | 119 => 52 | 21 => 21 | 51 => 55 | 141 => 57 | 105 => 60 | 196 => 70 | 193 => 67 | 198 => 73 | 49 => 71 | 194 => 68 | 201 => 76 | 226 => 85 | 46 => 82 | 227 => 86 | 139 => 81 | 138 => 80 | n => n, fun | 2 => 0 | 6 => 2 | 3 => 3 | 4 => 4 | n => n⟩
theorem Tryd.laysbs188 : Go.Proofs.Lays.nbs188 Tryd.prog Tryd.laysbs188_ren := {
  mixed := by kernel_rfl
  f120 := Tryd.func56.trans (congrArg some (by kernel_rfl))
  f188 := Tryd.func26.trans (congrArg some (by kernel_rfl))
  f199 := Tryd.func31.trans (congrArg some (by kernel_rfl))
  f256 := Tryd.func30.trans (congrArg some (by kernel_rfl))
  f261 := Tryd.func36.trans (congrArg some (by kernel_rfl))
  f292 := Tryd.func34.trans (congrArg some (by kernel_rfl))
  f293 := Tryd.func35.trans (congrArg some (by kernel_rfl))
  f311 := Tryd.func46.trans (congrArg some (by kernel_rfl))
  f312 := Tryd.func47.trans (congrArg some (by kernel_rfl))
  f325 := Tryd.func43.trans (congrArg some (by kernel_rfl))
  f326 := Tryd.func44.trans (congrArg some (by kernel_rfl))
  f327 := Tryd.func45.trans (congrArg some (by kernel_rfl))
  f341 := Tryd.func54.trans (congrArg some (by kernel_rfl))
  f342 := Tryd.func55.trans (congrArg some (by kernel_rfl))
  t0 := Tryd.underlying0
  a0 := Tryd.isAgg0
  z0 := Tryd.sizeOf0
  v0 := Tryd.zeroValue0
  t3 := Tryd.underlying3
  a3 := Tryd.isAgg3
  z3 := Tryd.sizeOf3
  v3 := Tryd.zeroValue3
  t4 := Tryd.underlying4
  a4 := Tryd.isAgg4
  z4 := Tryd.sizeOf4
  v4 := Tryd.zeroValue4
  t5 := Tryd.underlying5
  a5 := Tryd.isAgg5
  z5 := Tryd.sizeOf5
  v5 := Tryd.zeroValue5
  t21 := Tryd.underlying21
  a21 := Tryd.isAgg21
  z21 := Tryd.sizeOf21
  v21 := Tryd.zeroValue21
  t37 := Tryd.underlying23
  a37 := Tryd.isAgg23
  z37 := Tryd.sizeOf23
  v37 := Tryd.zeroValue23
  t40 := Tryd.underlying51
  a40 := Tryd.isAgg51
  z40 := Tryd.sizeOf51
  v40 := Tryd.zeroValue51
  t46 := Tryd.underlying82
  a46 := Tryd.isAgg82
  z46 := Tryd.sizeOf82
  v46 := Tryd.zeroValue82
  t49 := Tryd.underlying71
  a49 := Tryd.isAgg71
  z49 := Tryd.sizeOf71
  v49 := Tryd.zeroValue71
  t51 := Tryd.underlying55
  a51 := Tryd.isAgg55
  z51 := Tryd.sizeOf55
  v51 := Tryd.zeroValue55
  t105 := Tryd.underlying60
  a105 := Tryd.isAgg60
  z105 := Tryd.sizeOf60
  v105 := Tryd.zeroValue60
  t119 := Tryd.underlying52
  a119 := Tryd.isAgg52
  z119 := Tryd.sizeOf52
  t138 := Tryd.underlying80
  a138 := Tryd.isAgg80
  z138 := Tryd.sizeOf80
  v138 := Tryd.zeroValue80
  t139 := Tryd.underlying81
  a139 := Tryd.isAgg81
  z139 := Tryd.sizeOf81
  v139 := Tryd.zeroValue81
  t141 := Tryd.underlying57
  a141 := Tryd.isAgg57
  z141 := Tryd.sizeOf57
  v141 := Tryd.zeroValue57
  t193 := Tryd.underlying67
  a193 := Tryd.isAgg67
  z193 := Tryd.sizeOf67
  v193 := Tryd.zeroValue67
  t194 := Tryd.underlying68
  a194 := Tryd.isAgg68
  z194 := Tryd.sizeOf68
  v194 := Tryd.zeroValue68
  t196 := Tryd.underlying70
  a196 := Tryd.isAgg70
  z196 := Tryd.sizeOf70
  v196 := Tryd.zeroValue70
  t198 := Tryd.underlying73
  a198 := Tryd.isAgg73
  z198 := Tryd.sizeOf73
  v198 := Tryd.zeroValue73
  t201 := Tryd.underlying76
  a201 := Tryd.isAgg76
  z201 := Tryd.sizeOf76
  v201 := Tryd.zeroValue76
  t226 := Tryd.underlying85
  a226 := Tryd.isAgg85
  z226 := Tryd.sizeOf85
  v226 := Tryd.zeroValue85
  t227 := Tryd.underlying86
  a227 := Tryd.isAgg86
  z227 := Tryd.sizeOf86
  v227 := Tryd.zeroValue86
  g2 := by kernel_rfl
  g3 := by kernel_rfl
  g4 := by kernel_rfl
  g6 := by kernel_rfl
  gNamed := by kernel_rfl }
open Go.RowKit in
/-- bytes.TrimSpace: "TrimSpace returns a subslice of s by slicing off all leading and trailing white space, as defined by Unicode.": ON ASCII BYTES ('hascii': each number below 128): IT RETURNS 'Lib.bytesTrimSpace b o c (the bytes of s)': a slice OF THE ARGUMENT's OWN MEMORY, nil where all is white space; the world is as it was. 'htab': the table bytes.asciiSpace holds its numbers (as strings.TrimSpace's contract asks of its own). (LAID: no walk: one application.) -/
theorem Tryd.bytes_TrimSpace (b o n c : Nat) (xs : List Int) (w : World) (hx : xs.length = n) (hnc : n ≤ c) (hbig : n ≤ 9223372036854775807) (hc : ∀ i, i < n → w.cell? ⟨b, o + i, none⟩ = some (.int .u8 (xs.getD i 0))) (hascii : ∀ i, i < n → 0 ≤ xs.getD i 0 ∧ xs.getD i 0 < 128) (htab : Lib.TabIs Tryd.prog w "bytes.asciiSpace" .u8 Lib.asciiSpaceTab) :
    Calls Tryd.prog 26 #[.slice (some ⟨b, o, none⟩) n c] w fun e w' => e = .returned (Lib.bytesTrimSpace b o c (Lib.bytesOf xs)) ∧ w' = w := Any.bytes_TrimSpace Tryd.laysbs188 b o n c xs w hx hnc hbig hc hascii htab
def Tryd.lays188_ren : Go.Shelf.Ren := ⟨fun | 188 => 26 | 256 => 30 | 199 => 31 | 293 => 35 | 292 => 34 | 261 => 36 | 327 => 45 | 325 => 43 | 326 => 44 | 311 => 46 | 312 => 47 | 341 => 54 | 342 => 55 | 120 => 56 | n => n, fun | 37 => 23 | 3 => 3 | 0 => 0 | 5 => 5 | 4 => 4 | 40 => 51 | 119 => 52 | 21 => 21 | 51 => 55 | 141 => 57 | 105 => 60 | 196 => 70 | 193 => 67 | 198 => 73 | 49 => 71 | 194 => 68 | 201 => 76 | 226 => 85 | 46 => 82 | 227 => 86 | 139 => 81 | 138 => 80 | n => n, fun | 2 => 0 | 6 => 2 | 3 => 3 | 4 => 4 | n => n⟩
theorem Tryd.lays188 : Go.Proofs.Lays.n188 Tryd.prog Tryd.lays188_ren := {
  mixed := by kernel_rfl
  f120 := Tryd.func56.trans (congrArg some (by kernel_rfl))
  f188 := Tryd.func26.trans (congrArg some (by kernel_rfl))
  f199 := Tryd.func31.trans (congrArg some (by kernel_rfl))
  f256 := Tryd.func30.trans (congrArg some (by kernel_rfl))
  f261 := Tryd.func36.trans (congrArg some (by kernel_rfl))
  f292 := Tryd.func34.trans (congrArg some (by kernel_rfl))
  f293 := Tryd.func35.trans (congrArg some (by kernel_rfl))
  f311 := Tryd.func46.trans (congrArg some (by kernel_rfl))
  f312 := Tryd.func47.trans (congrArg some (by kernel_rfl))
  f325 := Tryd.func43.trans (congrArg some (by kernel_rfl))
  f326 := Tryd.func44.trans (congrArg some (by kernel_rfl))
  f327 := Tryd.func45.trans (congrArg some (by kernel_rfl))
  f341 := Tryd.func54.trans (congrArg some (by kernel_rfl))
  f342 := Tryd.func55.trans (congrArg some (by kernel_rfl))
  t0 := Tryd.underlying0
  a0 := Tryd.isAgg0
  z0 := Tryd.sizeOf0
  v0 := Tryd.zeroValue0
  t3 := Tryd.underlying3
  a3 := Tryd.isAgg3
  z3 := Tryd.sizeOf3
  v3 := Tryd.zeroValue3
  t4 := Tryd.underlying4
  a4 := Tryd.isAgg4
  z4 := Tryd.sizeOf4
  v4 := Tryd.zeroValue4
  t5 := Tryd.underlying5
  a5 := Tryd.isAgg5
  z5 := Tryd.sizeOf5
  v5 := Tryd.zeroValue5
  t21 := Tryd.underlying21
  a21 := Tryd.isAgg21
  z21 := Tryd.sizeOf21
  v21 := Tryd.zeroValue21
  t37 := Tryd.underlying23
  a37 := Tryd.isAgg23
  z37 := Tryd.sizeOf23
  v37 := Tryd.zeroValue23
  t40 := Tryd.underlying51
  a40 := Tryd.isAgg51
  z40 := Tryd.sizeOf51
  v40 := Tryd.zeroValue51
  t46 := Tryd.underlying82
  a46 := Tryd.isAgg82
  z46 := Tryd.sizeOf82
  v46 := Tryd.zeroValue82
  t49 := Tryd.underlying71
  a49 := Tryd.isAgg71
  z49 := Tryd.sizeOf71
  v49 := Tryd.zeroValue71
  t51 := Tryd.underlying55
  a51 := Tryd.isAgg55
  z51 := Tryd.sizeOf55
  v51 := Tryd.zeroValue55
  t105 := Tryd.underlying60
  a105 := Tryd.isAgg60
  z105 := Tryd.sizeOf60
  v105 := Tryd.zeroValue60
  t119 := Tryd.underlying52
  a119 := Tryd.isAgg52
  z119 := Tryd.sizeOf52
  t138 := Tryd.underlying80
  a138 := Tryd.isAgg80
  z138 := Tryd.sizeOf80
  v138 := Tryd.zeroValue80
  t139 := Tryd.underlying81
  a139 := Tryd.isAgg81
  z139 := Tryd.sizeOf81
  v139 := Tryd.zeroValue81
  t141 := Tryd.underlying57
  a141 := Tryd.isAgg57
  z141 := Tryd.sizeOf57
  v141 := Tryd.zeroValue57
  t193 := Tryd.underlying67
  a193 := Tryd.isAgg67
  z193 := Tryd.sizeOf67
  v193 := Tryd.zeroValue67
  t194 := Tryd.underlying68
  a194 := Tryd.isAgg68
  z194 := Tryd.sizeOf68
  v194 := Tryd.zeroValue68
  t196 := Tryd.underlying70
  a196 := Tryd.isAgg70
  z196 := Tryd.sizeOf70
  v196 := Tryd.zeroValue70
  t198 := Tryd.underlying73
  a198 := Tryd.isAgg73
  z198 := Tryd.sizeOf73
  v198 := Tryd.zeroValue73
  t201 := Tryd.underlying76
  a201 := Tryd.isAgg76
  z201 := Tryd.sizeOf76
  v201 := Tryd.zeroValue76
  t226 := Tryd.underlying85
  a226 := Tryd.isAgg85
  z226 := Tryd.sizeOf85
  v226 := Tryd.zeroValue85
  t227 := Tryd.underlying86
  a227 := Tryd.isAgg86
  z227 := Tryd.sizeOf86
  v227 := Tryd.zeroValue86
  g2 := by kernel_rfl
  g3 := by kernel_rfl
  g4 := by kernel_rfl
  g6 := by kernel_rfl }
open Go.RowKit in
/-- bytes.TrimSpace AT nil: nil. (LAID: no walk: one application.) -/
theorem Tryd.bytes_TrimSpace_nil (w : World) :
    Calls Tryd.prog 26 #[.slice none 0 0] w fun e w' => e = .returned (.slice none 0 0) ∧ w' = w := Any.bytes_TrimSpace_nil Tryd.lays188 w
def Tryd.laysValid_ren : Go.Shelf.Ren := ⟨fun | 196 => 39 | 259 => 49 | n => n, fun | 9 => 9 | 4 => 4 | 3 => 3 | 5 => 5 | 12 => 12 | 119 => 52 | 0 => 0 | 46 => 82 | 139 => 81 | 138 => 80 | 53 => 87 | n => n, fun | 3 => 3 | 4 => 4 | n => n⟩
theorem Tryd.laysValid : Go.Proofs.Lays.n196 Tryd.prog Tryd.laysValid_ren := {
  mixed := by kernel_rfl
  f196 := Tryd.func39.trans (congrArg some (by kernel_rfl))
  f259 := Tryd.func49.trans (congrArg some (by kernel_rfl))
  t0 := Tryd.underlying0
  a0 := Tryd.isAgg0
  z0 := Tryd.sizeOf0
  v0 := Tryd.zeroValue0
  t3 := Tryd.underlying3
  a3 := Tryd.isAgg3
  z3 := Tryd.sizeOf3
  v3 := Tryd.zeroValue3
  t4 := Tryd.underlying4
  a4 := Tryd.isAgg4
  z4 := Tryd.sizeOf4
  v4 := Tryd.zeroValue4
  t5 := Tryd.underlying5
  a5 := Tryd.isAgg5
  z5 := Tryd.sizeOf5
  v5 := Tryd.zeroValue5
  t9 := Tryd.underlying9
  a9 := Tryd.isAgg9
  z9 := Tryd.sizeOf9
  v9 := Tryd.zeroValue9
  t12 := Tryd.underlying12
  a12 := Tryd.isAgg12
  z12 := Tryd.sizeOf12
  v12 := Tryd.zeroValue12
  t46 := Tryd.underlying82
  a46 := Tryd.isAgg82
  z46 := Tryd.sizeOf82
  v46 := Tryd.zeroValue82
  t53 := Tryd.underlying87
  a53 := Tryd.isAgg87
  z53 := Tryd.sizeOf87
  v53 := Tryd.zeroValue87
  t119 := Tryd.underlying52
  a119 := Tryd.isAgg52
  z119 := Tryd.sizeOf52
  t138 := Tryd.underlying80
  a138 := Tryd.isAgg80
  z138 := Tryd.sizeOf80
  v138 := Tryd.zeroValue80
  t139 := Tryd.underlying81
  a139 := Tryd.isAgg81
  z139 := Tryd.sizeOf81
  v139 := Tryd.zeroValue81
  g3 := by kernel_rfl
  g4 := by kernel_rfl }
end Go.Proofs
