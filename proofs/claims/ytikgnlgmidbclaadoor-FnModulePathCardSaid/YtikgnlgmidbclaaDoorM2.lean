/- Where modfile.zzIndex finds a piece: plain laws on its Lean function, and its contract at the two pieces that ModulePath looks for. Condition: a text of at most 2^47 - 4096 bytes. -/
import Derived.Test.YtikgnlgmidbclaaDoorM1
import Derived.Test.YtikgnlgmidbclaaDoorV1
namespace Go.Proofs.YtikgnlgmidbclaaDoor.Plain
set_option linter.unusedVariables false
set_option linter.unusedSimpArgs false
open Go.RowKit Go.Proofs.YtikgnlgmidbclaaDoor.PFnModulePath Go.Proofs.YtikgnlgmidbclaaDoorW.PrintWords

theorem zz_at (s t : ByteArray) (hs : s.size ≤ 140737488351232) (p : Nat) (hp : p + t.size ≤ s.size) (hit : (s.extract p (p + t.size)).toList = t.toList)
    (miss : ∀ j, j < p → (s.extract j (j + t.size)).toList ≠ t.toList) : ∃ k, modfile_zzIndex.f k s t = some (p : Int) := by
  have go : ∀ (d i : Nat), i ≤ p → p - i = d → ∃ k, modfile_zzIndex.l0 k s t (i : Int) = some (p : Int) := by
    intro d
    induction d with
    | zero =>
      intro i hi hd
      obtain rfl : i = p := by omega
      have e : wrap64 ((i : Int) + (t.size : Int)) = ((i + t.size : Nat) : Int) := by unfold wrap64; omega
      refine ⟨1, ?_⟩
      rw [modfile_zzIndex.l0, e, if_pos (by omega), if_pos (by omega), if_pos (by omega), if_pos (by simp only [Int.toNat_natCast]; exact hit)]
    | succ d ih =>
      intro i hi hd
      obtain ⟨k, hk⟩ := ih (i + 1) (by omega) (by omega)
      have e : wrap64 ((i : Int) + (t.size : Int)) = ((i + t.size : Nat) : Int) := by unfold wrap64; omega
      have e1 : wrap64 ((i : Int) + 1) = ((i + 1 : Nat) : Int) := by unfold wrap64; omega
      refine ⟨k + 1, ?_⟩
      rw [modfile_zzIndex.l0, e, if_pos (by omega), if_pos (by omega), if_pos (by omega), if_neg (by simp only [Int.toNat_natCast]; exact miss i (by omega)), e1]
      exact hk
  exact go p 0 (by omega) (by omega)

theorem zz_none (s t : ByteArray) (hs : s.size ≤ 140737488351232) (ht : t.size ≤ 1000) (miss : ∀ j, j + t.size ≤ s.size → (s.extract j (j + t.size)).toList ≠ t.toList) : ∃ k, modfile_zzIndex.f k s t = some (-1) := by
  have go : ∀ (d i : Nat), i ≤ s.size + 1 → s.size + 1 - i = d → ∃ k, modfile_zzIndex.l0 k s t (i : Int) = some (-1) := by
    intro d
    induction d with
    | zero =>
      intro i hi hd
      have e : wrap64 ((i : Int) + (t.size : Int)) = ((i + t.size : Nat) : Int) := by unfold wrap64; omega
      refine ⟨1, ?_⟩
      rw [modfile_zzIndex.l0, e, if_neg (by omega)]
    | succ d ih =>
      intro i hi hd
      have e : wrap64 ((i : Int) + (t.size : Int)) = ((i + t.size : Nat) : Int) := by unfold wrap64; omega
      have e1 : wrap64 ((i : Int) + 1) = ((i + 1 : Nat) : Int) := by unfold wrap64; omega
      by_cases hle : i + t.size ≤ s.size
      · obtain ⟨k, hk⟩ := ih (i + 1) (by omega) (by omega)
        refine ⟨k + 1, ?_⟩
        rw [modfile_zzIndex.l0, e, if_pos (by omega), if_pos (by omega), if_pos (by omega), if_neg (by simp only [Int.toNat_natCast]; exact miss i hle), e1]
        exact hk
      · refine ⟨1, ?_⟩
        rw [modfile_zzIndex.l0, e, if_neg (by omega)]
  exact go (s.size + 1) 0 (by omega) (by omega)

theorem arr_list (l : List UInt8) : (⟨l.toArray⟩ : ByteArray).data.toList = l := rfl
theorem arr_size (l : List UInt8) : (⟨l.toArray⟩ : ByteArray).size = l.length := by rw [Lib.size_eq, arr_list]
theorem arr_window (l : List UInt8) (j n : Nat) : ((⟨l.toArray⟩ : ByteArray).extract j (j + n)).toList = (l.drop j).take n := by
  rw [Lib.toList_data, Lib.extract_data, arr_list]
  rw [show j + n - j = n from by omega]

/-- The first newline. -/
theorem zz_nl (L r : List UInt8) (hL : (10 : UInt8) ∉ L) (hs : (L ++ 10 :: r).length ≤ 140737488351232) (w : World) :
    Calls Tryd.prog 25 #[.string ⟨(L ++ 10 :: r).toArray⟩, .string ⟨#[10]⟩] w fun e w' => e = .returned (.int .i64 (L.length : Int)) ∧ Drawn0 w w' := by
  obtain ⟨k, h⟩ := zz_at ⟨(L ++ 10 :: r).toArray⟩ ⟨#[10]⟩ (by rw [arr_size]; exact hs) L.length (by show L.length + 1 ≤ _; rw [arr_size]; simp) (by
    show (ByteArray.extract _ L.length (L.length + 1)).toList = _
    rw [arr_window, List.drop_left, Lib.toList_data]
    rfl) (fun j hj => by
    show (ByteArray.extract _ j (j + 1)).toList ≠ _
    rw [arr_window, Lib.toList_data]
    intro e
    have h0 : ((L ++ 10 :: r).drop j).take 1 = [10] := e
    have a0 := congrArg (fun l => l[0]?) h0
    simp [hj] at a0
    rw [List.getElem?_append_left hj, List.getElem?_eq_getElem hj] at a0
    exact hL (by rw [← Option.some.inj a0]; exact List.getElem_mem hj))
  exact modfile_zzIndex.calls k _ _ _ w h

/-- no two strokes side by side -/
def NoSlash (L : List UInt8) : Prop := ∀ j, j + 1 < L.length → ¬ (L[j]? = some 47 ∧ L[j + 1]? = some 47)

theorem zz_no (L : List UInt8) (hL : NoSlash L) (hs : L.length ≤ 140737488351232) (w : World) :
    Calls Tryd.prog 25 #[.string ⟨L.toArray⟩, .string ⟨#[47, 47]⟩] w fun e w' => e = .returned (.int .i64 (-1)) ∧ Drawn0 w w' := by
  obtain ⟨k, h⟩ := zz_none ⟨L.toArray⟩ ⟨#[47, 47]⟩ (by rw [arr_size]; exact hs) (by decide) (fun j hj => by
    rw [arr_size] at hj
    have hj' : j + 2 ≤ L.length := hj
    show (ByteArray.extract _ j (j + 2)).toList ≠ _
    rw [arr_window, Lib.toList_data]
    intro e
    have h0 : (L.drop j).take 2 = [47, 47] := e
    apply hL j (by omega)
    have a0 := congrArg (fun l => l[0]?) h0
    have a1 := congrArg (fun l => l[1]?) h0
    simp at a0 a1
    exact ⟨a0, a1⟩)
  exact modfile_zzIndex.calls k _ _ _ w h

theorem zz_zero (L : List UInt8) (hs : (47 :: 47 :: L).length ≤ 140737488351232) (w : World) :
    Calls Tryd.prog 25 #[.string ⟨(47 :: 47 :: L).toArray⟩, .string ⟨#[47, 47]⟩] w fun e w' => e = .returned (.int .i64 0) ∧ Drawn0 w w' := by
  obtain ⟨k, h⟩ := zz_at ⟨(47 :: 47 :: L).toArray⟩ ⟨#[47, 47]⟩ (by rw [arr_size]; exact hs) 0 (by show 0 + 2 ≤ _; rw [arr_size]; simp) (by
    show (ByteArray.extract _ 0 (0 + 2)).toList = _
    rw [arr_window, Lib.toList_data]
    rfl) (fun j hj => by omega)
  exact modfile_zzIndex.calls k _ _ _ w h
end Go.Proofs.YtikgnlgmidbclaaDoor.Plain
