/- Bytes in memory for the walk of modfile.ModulePath: what a piece of a text reads as, converted, trimmed, compared. No condition of its own. -/
import Derived.Test.YtikgnlgmidbclaaDoorU2
import Derived.Test.YtikgnlgmidbclaaDoorO5
import Derived.Lib.BytesSpace
namespace Go.Proofs.YtikgnlgmidbclaaDoor.Plain
set_option linter.unusedVariables false
set_option linter.unusedSimpArgs false
open Go.RowKit Go.Proofs.YtikgnlgmidbclaaDoor.PFnModulePath Go.Proofs.YtikgnlgmidbclaaDoorW.PrintWords

def numsB (D : List UInt8) : List Int := D.map fun b => (b.toNat : Int)
/-- the bytes D lie in block g from o on -/
def BytesAt (w : World) (g o : Nat) (D : List UInt8) : Prop := ∀ i, i < D.length → w.cell? ⟨g, o + i, none⟩ = some (.int .u8 ((numsB D).getD i 0))
theorem numsB_length (D : List UInt8) : (numsB D).length = D.length := by simp [numsB]
theorem numsB_getD (D : List UInt8) (i : Nat) (h : i < D.length) : (numsB D).getD i 0 = (D[i].toNat : Int) := by
  unfold numsB
  rw [List.getD_eq_getElem?_getD, List.getElem?_map, List.getElem?_eq_getElem h]
  rfl
theorem strOf_numsB (D : List UInt8) : strOfNums (numsB D) = ⟨D.toArray⟩ := by
  unfold strOfNums numsB
  congr 1
  rw [List.map_map]
  have : (List.map ((fun x => x.toNat.toUInt8) ∘ fun b : UInt8 => (b.toNat : Int)) D) = D := by
    conv => rhs; rw [← List.map_id D]
    apply List.map_congr_left
    intro b _
    simp
  first | rw [this] | (simp)
theorem BytesAt.drewN {w : World} {g o : Nat} {D : List UInt8} (h : BytesAt w g o D) (k : Nat) : BytesAt (w.drewN k) g o D := fun i hi => by
  have := h i hi
  simpa using this
theorem BytesAt.below {w w' : World} {g o : Nat} {D : List UInt8} (h : BytesAt w g o D) (hb : Below w.heap.size w w') : BytesAt w' g o D := fun i hi => pw_cell_below hb (h i hi)
theorem BytesAt.alloc {w : World} {g o : Nat} {D : List UInt8} (h : BytesAt w g o D) (x : Obj) : BytesAt (w.alloc x) g o D := h.below (below_alloc (Below.refl _ _) _)
theorem BytesAt.sub {w : World} {g o : Nat} {A B C : List UInt8} (h : BytesAt w g o (A ++ B ++ C)) : BytesAt w g (o + A.length) B := fun i hi => by
  have := h (A.length + i) (by simp; omega)
  rw [numsB_getD _ _ (by simp; omega)] at this
  rw [numsB_getD _ _ hi]
  rw [show o + A.length + i = o + (A.length + i) from by omega, this]
  congr 3
  rw [List.getElem_append_left (by simp; omega), List.getElem_append_right (by omega)]
  congr 1
  simp
theorem BytesAt.conv {w : World} {g o : Nat} {D : List UInt8} (h : BytesAt w g o D) (n c : Nat) (hn : D.length = n) : (convert 23 9 (.slice (some ⟨g, o, none⟩) n c)).run Tryd.prog w = .ok (.string ⟨D.toArray⟩) w := by
  subst hn
  rw [← strOf_numsB]
  exact run_convert_bytes_arg w 23 5 Tryd.underlying23 Tryd.underlying5 g o D.length c (numsB D) (numsB_length D) h 9 Tryd.underlying9
theorem BytesAt.in_ {w : World} {g o : Nat} {D : List UInt8} (h : BytesAt w g o D) : Lib.BytesIn w (some ⟨g, o, none⟩) D.length (numsB D) := by
  exact fun _ => ⟨g, o, rfl, h⟩
theorem bytesOf_numsB (D : List UInt8) : Lib.bytesOf (numsB D) = D := by
  unfold Lib.bytesOf numsB
  rw [List.map_map]
  conv => rhs; rw [← List.map_id D]
  apply List.map_congr_left
  intro b _
  simp
theorem trim_calls {w : World} {g o c : Nat} {D : List UInt8} (h : BytesAt w g o D) (hc : D.length ≤ c) (hs : D.length ≤ 9223372036854775807) (ha : ∀ b ∈ D, b.toNat < 128) (htab : Lib.TabIs Tryd.prog w "bytes.asciiSpace" .u8 Lib.asciiSpaceTab) :
    Calls Tryd.prog 26 #[.slice (some ⟨g, o, none⟩) D.length c] w fun e w' => e = .returned (Lib.bytesTrimSpace g o c D) ∧ w' = w := by
  have := Tryd.bytes_TrimSpace g o D.length c (numsB D) w (numsB_length D) hc hs h (fun i hi => by
    rw [numsB_getD _ _ hi]
    have := ha _ (List.getElem_mem hi)
    omega) htab
  rwa [bytesOf_numsB] at this
end Go.Proofs.YtikgnlgmidbclaaDoor.Plain
