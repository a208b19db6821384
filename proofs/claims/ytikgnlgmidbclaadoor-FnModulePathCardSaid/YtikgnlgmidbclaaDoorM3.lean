/- The walk of modfile.ModulePath at a text whose lines are remarks, others than a module's, or the module's: it returns the module's path. Conditions: MP (what the lines are), at most 20000 bytes, the tables of bytes and utf8. -/
import Derived.Test.YtikgnlgmidbclaaDoorM2
import Derived.Lib.SlBytesConst
namespace Go.Proofs.YtikgnlgmidbclaaDoor.Plain
set_option linter.unusedVariables false
set_option linter.unusedSimpArgs false
open Go.RowKit Go.Proofs.YtikgnlgmidbclaaDoor.PFnModulePath Go.Proofs.YtikgnlgmidbclaaDoorW.PrintWords

def modL : List UInt8 := [109, 111, 100, 117, 108, 101]
def Ascii (L : List UInt8) : Prop := ∀ b ∈ L, b.toNat < 128
def Spaces (L : List UInt8) : Prop := ∀ b ∈ L, Lib.isSp b = true
/-- neither at the begin nor at the end white space -/
def Tight (L : List UInt8) : Prop := L ≠ [] ∧ (∀ x, L[0]? = some x → Lib.isSp x = false) ∧ ∀ x, L[L.length - 1]? = some x → Lib.isSp x = false
/-- the path's place: as it stands, or in quotation marks -/
def QuoteOf (Q : List UInt8) (R : ByteArray) : Prop := (R = ⟨Q.toArray⟩ ∧ (∀ x, Q[0]? = some x → x ≠ 34 ∧ x ≠ 96)) ∨ (∃ l, Q = 34 :: (l ++ [34]) ∧ PlainL l ∧ l.length ≤ 1000 ∧ R = ⟨l.toArray⟩)
def Hit (L : List UInt8) (R : ByteArray) : Prop :=
  ∃ G1 G2 Q G3, L = G1 ++ (modL ++ G2 ++ Q) ++ G3 ∧ Spaces G1 ∧ Spaces G2 ∧ G2 ≠ [] ∧ Spaces G3 ∧ Tight Q ∧ Ascii L ∧ (10 : UInt8) ∉ L ∧ NoSlash L ∧ QuoteOf Q R
/-- What the first k lines are: remarks, others, and last the module's, or none. -/
def MP (R : ByteArray) : Nat → List UInt8 → Prop
  | 0, D => D = [] ∧ R = ⟨#[]⟩
  | k + 1, D => (∃ L r, D = (47 :: 47 :: L) ++ 10 :: r ∧ (10 : UInt8) ∉ (47 :: 47 :: L) ∧ MP R k r) ∨
      (∃ L r, D = L ++ 10 :: r ∧ (10 : UInt8) ∉ L ∧ NoSlash L ∧ Ascii L ∧ Tight L ∧ Lib.hasPrefix L modL = false ∧ MP R k r) ∨
      (∃ L r, D = L ++ 10 :: r ∧ Hit L R)

theorem take_run (A : Option Addr) (n c m : Nat) (hm : m ≤ c) (W : World) : (Instr.slice 23 (.slice A n c) none (some (.int .i64 (m : Int))) none).run Tryd.prog W = .ok (.slice A m c) W := by
  obtain ⟨i0, hi0, _, hsz, _⟩ := info_parts info5
  have hel : Tryd.prog.elem 23 = 5 := by simp [Program.elem, Tryd.underlying23]
  have hu : Tryd.prog.underlying 23 = some (.slice (Tryd.prog.elem 23)) := by rw [hel]; exact Tryd.underlying23
  have ha : (A.map fun x => x.add 0) = A := by cases A <;> simp [Addr.add]
  rw [run_slice_h W 23 A n c hu .i64 (m : Int) (by omega) (by omega), hel]
  simp [sizeOf, typeInfo, hi0, hsz, sliced, Result.andThen]
  intro _
  exact ha
theorem drop_run (g o n c m : Nat) (hm : m ≤ n) (hc : n ≤ c) : ∃ A' : Option Addr, (0 < n - m → A' = some ⟨g, o + m, none⟩) ∧ (m < c → A' = some ⟨g, o + m, none⟩) ∧
    ∀ W : World, (Instr.slice 23 (.slice (some ⟨g, o, none⟩) n c) (some (.int .i64 (m : Int))) none none).run Tryd.prog W = .ok (.slice A' (n - m) (c - m)) W := by
  obtain ⟨i0, hi0, _, hsz, _⟩ := info_parts info5
  obtain ⟨A', h1, _⟩ := print_cut (P := Tryd.prog) 23 5 .i64 Tryd.underlying23 hi0 hsz (some ⟨g, o, none⟩) n c m hm
  have h2 : m < c → A' = some ⟨g, o + m, none⟩ := fun hlt => by
    have hel : Tryd.prog.elem 23 = 5 := by simp [Program.elem, Tryd.underlying23]
    have hu : Tryd.prog.underlying 23 = some (.slice (Tryd.prog.elem 23)) := by rw [hel]; exact Tryd.underlying23
    have h3 := h1 default
    rw [run_slice_l default 23 (some ⟨g, o, none⟩) n c hu .i64 (m : Int) (by omega) (by omega), hel] at h3
    simp [sizeOf, typeInfo, hi0, hsz, sliced, Result.andThen] at h3
    rw [← h3, if_neg (by omega)]
    unfold Addr.add
    split
    · simp_all
    · rfl
  exact ⟨A', fun h => h2 (by omega), h2, h1⟩

theorem mod_in (W : World) (k : Nat) : Lib.BytesIn ((W.drewN k).alloc (.cells #[.int .u8 109, .int .u8 111, .int .u8 100, .int .u8 117, .int .u8 108, .int .u8 101] 5 (6, 7))) (some ⟨W.heap.size, 0, none⟩) 6 [109, 111, 100, 117, 108, 101] := fun _ => by
  refine ⟨W.heap.size, 0, rfl, fun i hi => ?_⟩
  have hb : ((W.drewN k).alloc (.cells #[.int .u8 109, .int .u8 111, .int .u8 100, .int .u8 117, .int .u8 108, .int .u8 101] 5 (6, 7))).heap[W.heap.size]? = some (.cells #[.int .u8 109, .int .u8 111, .int .u8 100, .int .u8 117, .int .u8 108, .int .u8 101] 5 (6, 7)) := by
    show ((W.drewN k).heap.push _)[W.heap.size]? = _
    simp
  have : i = 0 ∨ i = 1 ∨ i = 2 ∨ i = 3 ∨ i = 4 ∨ i = 5 := by omega
  unfold World.cell?
  simp only
  rw [hb]
  rcases this with rfl | rfl | rfl | rfl | rfl | rfl <;> rfl

theorem pre_calls {W : World} {A : Option Addr} {D : List UInt8} (k c : Nat) (hc : D.length ≤ c) (h : Lib.BytesIn ((W.drewN k).alloc (.cells #[.int .u8 109, .int .u8 111, .int .u8 100, .int .u8 117, .int .u8 108, .int .u8 101] 5 (6, 7))) A D.length (numsB D)) (b : Bool) (hb : Lib.hasPrefix D modL = b) :
    Calls Tryd.prog 27 #[.slice A D.length c, .slice (some ⟨W.heap.size, 0, none⟩) 6 6] ((W.drewN k).alloc (.cells #[.int .u8 109, .int .u8 111, .int .u8 100, .int .u8 117, .int .u8 108, .int .u8 101] 5 (6, 7))) fun e w' => e = .returned (.bool b) ∧ w' = (W.drewN k).alloc (.cells #[.int .u8 109, .int .u8 111, .int .u8 100, .int .u8 117, .int .u8 108, .int .u8 101] 5 (6, 7)) := by
  have := Tryd.bytes_HasPrefix_all A (some ⟨W.heap.size, 0, none⟩) D.length c 6 6 (numsB D) [109, 111, 100, 117, 108, 101] _ (numsB_length D) rfl hc h (mod_in W k)
  rw [bytesOf_numsB] at this
  rw [← hb]
  exact this

theorem trim_nil (g o c : Nat) : Lib.bytesTrimSpace g o c [] = .slice none 0 0 := Lib.bytesTrimSpace_all g o c [] (fun j x h => by simp at h)
theorem trim_mid (g o c : Nat) (G1 M G3 : List UInt8) (h1 : Spaces G1) (h3 : Spaces G3) (hM : Tight M) : Lib.bytesTrimSpace g o c (G1 ++ M ++ G3) = .slice (some ⟨g, o + G1.length, none⟩) M.length (c - G1.length) := by
  have hpos : 0 < M.length := List.length_pos_iff.2 hM.1
  rw [Lib.bytesTrimSpace_cut g o c (G1 ++ M ++ G3) G1.length (G1.length + M.length - 1) (by omega) (by simp; omega) ?_ ?_ ?_ ?_]
  · congr 1; omega
  · intro j x hj hx
    rw [List.append_assoc, List.getElem?_append_left hj] at hx
    exact h1 x (List.mem_of_getElem? hx)
  · intro x hx
    rw [List.append_assoc, List.getElem?_append_right (Nat.le_refl _), List.getElem?_append_left (by omega)] at hx
    rw [Nat.sub_self] at hx
    exact hM.2.1 x hx
  · intro x hx
    rw [List.append_assoc, List.getElem?_append_right (by omega), List.getElem?_append_left (by omega)] at hx
    rw [show G1.length + M.length - 1 - G1.length = M.length - 1 from by omega] at hx
    exact hM.2.2 x hx
  · intro j x hj hx
    rw [List.getElem?_append_right (by simp; omega)] at hx
    exact h3 x (List.mem_of_getElem? hx)

theorem tabs_below {w w' : World} (h : Lib.Utf8Tabs (Tryd.laysValid_ren.g 3) (Tryd.laysValid_ren.g 4) w) (hb : Below w.heap.size w w') : Lib.Utf8Tabs (Tryd.laysValid_ren.g 3) (Tryd.laysValid_ren.g 4) w' :=
  ⟨fun c hc => pw_cell_below hb (h.1 c hc), fun i hi => ⟨pw_cell_below hb (h.2 i hi).1, pw_cell_below hb (h.2 i hi).2⟩⟩
theorem gSpace : Tryd.prog.globalNamed "bytes.asciiSpace" = some 0 := by kernel_rfl
theorem tab_below {w w' : World} (h : Lib.TabIs Tryd.prog w "bytes.asciiSpace" .u8 Lib.asciiSpaceTab) (hb : Below w.heap.size w w') : Lib.TabIs Tryd.prog w' "bytes.asciiSpace" .u8 Lib.asciiSpaceTab := by
  unfold Lib.TabIs World.var? at h ⊢
  rw [gSpace] at h ⊢
  simp only [Option.bind_some] at h ⊢
  have hlt : 0 < w.heap.size := by
    rcases Nat.lt_or_ge 0 w.heap.size with h' | h'
    · exact h'
    · rw [Array.getElem?_eq_none h'] at h; cases h
  rw [hb.block 0 hlt]
  exact h

end Go.Proofs.YtikgnlgmidbclaaDoor.Plain
