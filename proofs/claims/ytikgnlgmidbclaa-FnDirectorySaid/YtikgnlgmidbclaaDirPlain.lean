/- The plain law behind 'laws.FnDirectory': what the printed 'impl_IsDirectoryPath.f' answers at a string of small letters, dots and strokes, by where its first part ends. Conditions: each byte is 46, 47 or one of 97 to 122. -/
import Derived.Test.YtikgnlgmidbclaaPFnDirectoryx1
import Derived.Lib.Strings
namespace Go.Proofs.Ytikgnlgmidbclaa.Dir
set_option linter.unusedSimpArgs false
open Go.RowKit Go.Proofs.Ytikgnlgmidbclaa.PFnDirectory Go.Proofs.YtikgnlgmidbclaaW.PrintWords

/-- the bytes of which the law speaks -/
def okb (c : Int) : Prop := c = 46 ∨ c = 47 ∨ (97 ≤ c ∧ c ≤ 122)

theorem bt_get (s : ByteArray) (j : Nat) (x : UInt8) (h : s.data.toList[j]? = some x) : bt s (j : Int) = (x.toNat : Int) := by
  obtain ⟨hlt, hx⟩ := List.getElem?_eq_some_iff.1 h
  have hs : j < s.size := by rw [Lib.size_eq]; exact hlt
  have e := bt_at s (j : Int) (by simpa using hs)
  rw [← e, ← hx]
  simp
  rfl

theorem prefix_some (a p : ByteArray) : strings_HasPrefix.f a p = some (p.data.toList.isPrefixOf a.data.toList) := by
  unfold strings_HasPrefix.f stringslite_HasPrefix.f
  by_cases h : (a.size : Int) ≥ (p.size : Int)
  · rw [if_pos h, if_pos (by omega), if_pos (by omega)]
    simp only [Option.bind_some, Int.toNat_natCast]
    congr 1
    rw [Lib.toList_data, Lib.toList_data, Lib.extract_data]
    simp only [List.drop_zero, Nat.sub_zero]
    rw [Bool.eq_iff_iff, List.isPrefixOf_iff_prefix, List.prefix_iff_eq_take, beq_iff_eq, Lib.size_eq]
    exact eq_comm
  · rw [if_neg h]
    simp only [Option.bind_some]
    congr 1
    rw [eq_comm, Bool.eq_false_iff]
    intro hp
    have := (List.isPrefixOf_iff_prefix.1 hp).length_le
    rw [← Lib.size_eq, ← Lib.size_eq] at this
    omega

/-- the answer, over the string's bytes -/
def isDir (l : List UInt8) : Bool :=
  l == [46] || [46, 47].isPrefixOf l || [46, 92].isPrefixOf l || l == [46, 46] || [46, 46, 47].isPrefixOf l || [46, 46, 92].isPrefixOf l || [47].isPrefixOf l || [92].isPrefixOf l

theorem dir_some (a : ByteArray) (hok : ∀ j : Nat, j < a.size → okb (bt a j)) : impl_IsDirectoryPath.f a = some (isDir a.data.toList) := by
  unfold impl_IsDirectoryPath.f modfile_IsDirectoryPath.f isDir
  simp only [prefix_some, Lib.toList_data, Option.bind_some]
  by_cases h1 : a.data.toList = [46]
  · rw [if_pos h1]; simp [h1]
  rw [if_neg h1]
  cases h2 : ([46, 47] : List UInt8).isPrefixOf a.data.toList
  case true => simp
  cases h3 : ([46, 92] : List UInt8).isPrefixOf a.data.toList
  case true => simp
  by_cases h4 : a.data.toList = [46, 46]
  · simp [h4]
  cases h5 : ([46, 46, 47] : List UInt8).isPrefixOf a.data.toList
  case true => simp [h4]
  cases h6 : ([46, 46, 92] : List UInt8).isPrefixOf a.data.toList
  case true => simp [h4]
  cases h7 : ([47] : List UInt8).isPrefixOf a.data.toList
  case true => simp [h4]
  cases h8 : ([92] : List UInt8).isPrefixOf a.data.toList
  case true => simp [h4]
  have e1 : (a.data.toList == [46]) = false := beq_eq_false_iff_ne.mpr h1
  have e4 : (a.data.toList == [46, 46]) = false := beq_eq_false_iff_ne.mpr h4
  rw [e1, e4]
  simp only [Bool.false_eq_true, if_false, if_neg h4, Option.bind_some, Bool.or_false]
  by_cases hs : (a.size : Int) ≥ 2
  · have k0 := hok 0 (by omega)
    have k1 := hok 1 (by omega)
    have n58 : (bt a 1 == 58) = false := by
      rw [beq_eq_false_iff_ne]
      unfold okb at k1
      simp only [Int.natCast_one] at k1
      omega
    unfold okb at k0
    simp only [Int.natCast_zero] at k0
    rw [if_pos hs, if_pos (by omega), n58]
    rw [if_pos (by omega : (1 : Int) < (a.size : Int))]
    split
    · split <;> (try split) <;> (try split) <;> rfl
    · split <;> (try split) <;> rfl
  · rw [if_neg hs]
    rfl

theorem isPre1 (x : UInt8) (l : List UInt8) : [x].isPrefixOf l = (l[0]? == some x) := by
  cases l with
  | nil => rfl
  | cons a r => simp [List.isPrefixOf, eq_comm, BEq.comm]

/-- no byte is a backslash -/
theorem no92 (a : ByteArray) (hok : ∀ j : Nat, j < a.size → okb (bt a j)) (j : Nat) (x : UInt8) (h : a.data.toList[j]? = some x) : x ≠ 92 := by
  intro e
  subst e
  have hj : j < a.size := by rw [Lib.size_eq]; exact (List.getElem?_eq_some_iff.1 h).1
  have k := hok j hj
  rw [bt_get a j 92 h] at k
  unfold okb at k
  simp at k

theorem is_true {l : List UInt8} {i : Nat} (h : l.take i = [46] ∧ (l.length = i ∨ l[i]? = some 47) ∨ l.take i = [46, 46] ∧ (l.length = i ∨ l[i]? = some 47) ∨ l[0]? = some 47) : isDir l = true := by
  unfold isDir
  rcases h with ⟨h, e⟩ | ⟨h, e⟩ | h
  · have hi : i = 1 ∨ l.length = 1 := by
      have := congrArg List.length h; simp at this; omega
    match l, h, e, hi with
    | [x], h, e, hi =>
      cases i with
      | zero => simp at h
      | succ n => simp at h; simp [h]
    | x :: y :: r, h, e, hi =>
      obtain rfl : i = 1 := by simp at hi; exact hi
      simp at h e
      simp [h, e, List.isPrefixOf]
    | [], h, e, hi => simp at h
  · have hi : i = 2 ∨ l.length = 2 := by
      have := congrArg List.length h; simp at this; omega
    match l, h, e, hi with
    | [x], h, e, hi =>
      have := congrArg List.length h
      simp at this
      omega
    | [x, y], h, e, hi =>
      have hl := congrArg List.length h
      simp at hl
      rw [List.take_of_length_le (by simp; omega)] at h
      rw [h]; rfl
    | x :: y :: z :: r, h, e, hi =>
      obtain rfl : i = 2 := by simp at hi; exact hi
      simp at h e
      simp [h, e, List.isPrefixOf]
    | [], h, e, hi => simp at h
  · cases l with
    | nil => simp at h
    | cons x r => simp at h; simp [h, List.isPrefixOf]

theorem is_false {l : List UInt8} {i : Nat} (hi : 0 < i) (hil : i ≤ l.length) (h92 : ∀ (j : Nat) (x : UInt8), l[j]? = some x → x ≠ 92) (hne : ∀ j : Nat, j < i → l[j]? ≠ some 47)
    (h1 : l.take i ≠ [46]) (h2 : l.take i ≠ [46, 46]) (e : l.length = i ∨ l[i]? = some 47) : isDir l = false := by
  unfold isDir
  have n0 := hne 0 hi
  match l, hil, h92, n0, hne, h1, h2, e with
  | [], hil, _, _, _, _, _, _ => simp at hil; omega
  | [x], hil, h92, n0, hne, h1, h2, e =>
    obtain rfl : i = 1 := by simp at hil; omega
    have k0 := h92 0 x rfl
    simp at n0 h1
    have m47 : ¬ (47 : UInt8) = x := fun h => n0 h.symm
    have m92 : ¬ (92 : UInt8) = x := fun h => k0 h.symm
    simp [List.isPrefixOf, h1, m47, m92]
  | [x, y], hil, h92, n0, hne, h1, h2, e =>
    have k0 := h92 0 x rfl
    have k1 := h92 1 y rfl
    simp at n0
    have m47 : ¬ (47 : UInt8) = x := fun h => n0 h.symm
    have m92 : ¬ (92 : UInt8) = x := fun h => k0 h.symm
    have m92y : ¬ (92 : UInt8) = y := fun h => k1 h.symm
    have hi2 : i = 1 ∨ i = 2 := by simp at hil; omega
    rcases hi2 with rfl | rfl
    · simp at h1
      have m : ¬ (46 : UInt8) = x := fun h => h1 h.symm
      simp [List.isPrefixOf, m47, m92, m, h1]
    · have n1 := hne 1 (by omega)
      simp at n1 h2
      have m47y : ¬ (47 : UInt8) = y := fun h => n1 h.symm
      by_cases hx : (46 : UInt8) = x
      · subst hx
        have hy := h2 rfl
        simp [List.isPrefixOf, m47y, m92y, hy]
      · have hx' : ¬ x = (46 : UInt8) := fun h => hx h.symm
        simp [List.isPrefixOf, m47, m92, hx, hx']
  | x :: y :: z :: r, hil, h92, n0, hne, h1, h2, e =>
    have k0 := h92 0 x rfl
    have k1 := h92 1 y rfl
    have k2 := h92 2 z rfl
    simp at n0
    have hi2 : i = 1 ∨ i = 2 ∨ 2 < i := by omega
    have m47 : ¬ (47 : UInt8) = x := fun h => n0 h.symm
    have m92 : ¬ (92 : UInt8) = x := fun h => k0 h.symm
    have m92y : ¬ (92 : UInt8) = y := fun h => k1 h.symm
    have m92z : ¬ (92 : UInt8) = z := fun h => k2 h.symm
    rcases hi2 with rfl | rfl | hi3
    · simp at h1
      have m : ¬ (46 : UInt8) = x := fun h => h1 h.symm
      simp [List.isPrefixOf, m, m47, m92]
    · have n1 := hne 1 (by omega)
      simp at n1 h2
      have m47y : ¬ (47 : UInt8) = y := fun h => n1 h.symm
      by_cases hx : (46 : UInt8) = x
      · have hy : ¬ (46 : UInt8) = y := fun h => h2 hx.symm h.symm
        simp [List.isPrefixOf, m47, m92, m92y, m92z, m47y, hy]
      · simp [List.isPrefixOf, m47, m92, hx]
    · have n1 := hne 1 (by omega)
      have n2 := hne 2 (by omega)
      simp at n1 n2
      have m47y : ¬ (47 : UInt8) = y := fun h => n1 h.symm
      have m47z : ¬ (47 : UInt8) = z := fun h => n2 h.symm
      simp [List.isPrefixOf, m47, m92, m92y, m92z, m47y, m47z]

theorem take_eq (a : ByteArray) (i : Nat) : (a.extract 0 i).toList = a.data.toList.take i := by
  rw [Lib.toList_data, Lib.extract_data]; simp

theorem at_end {a : ByteArray} {i : Nat} (e : i = a.size ∨ (i < a.size ∧ bt a i = 47)) : a.data.toList.length = i ∨ a.data.toList[i]? = some 47 := by
  rcases e with e | ⟨hlt, e⟩
  · left; rw [← Lib.size_eq]; exact e.symm
  · right
    have hl : i < a.data.toList.length := by rw [← Lib.size_eq]; exact hlt
    rw [List.getElem?_eq_getElem hl]
    rw [bt_get a i _ (List.getElem?_eq_getElem hl)] at e
    congr 1
    apply UInt8.toNat_inj.1
    simp at e ⊢
    omega

/-- The first part is '.' or '..', or it is empty and the string is not: a directory. -/
theorem dir_yes (a : ByteArray) (hok : ∀ j : Nat, j < a.size → okb (bt a j)) (i : Nat) (hi : i ≤ a.size) (e : i = a.size ∨ (i < a.size ∧ bt a i = 47))
    (h : (a.extract 0 i).toList = [46] ∨ (a.extract 0 i).toList = [46, 46] ∨ (i = 0 ∧ 0 < a.size)) : impl_IsDirectoryPath.f a = some true := by
  rw [dir_some a hok]
  congr 1
  have e' := at_end e
  rw [take_eq] at h
  apply is_true (i := i)
  rcases h with h | h | ⟨rfl, h⟩
  · exact .inl ⟨h, e'⟩
  · exact .inr (.inl ⟨h, e'⟩)
  · refine .inr (.inr ?_)
    rcases e' with e' | e'
    · rw [← Lib.size_eq] at e'; omega
    · exact e'

/-- The first part is none of these: no directory. -/
theorem dir_no (a : ByteArray) (hok : ∀ j : Nat, j < a.size → okb (bt a j)) (i : Nat) (hi : i ≤ a.size) (e : i = a.size ∨ (i < a.size ∧ bt a i = 47))
    (hne : ∀ j : Nat, j < i → bt a j ≠ 47) (h1 : ¬ (a.extract 0 i).toList = [46]) (h2 : ¬ (a.extract 0 i).toList = [46, 46]) (h3 : i = 0 → a.size = 0) : impl_IsDirectoryPath.f a = some false := by
  rw [dir_some a hok]
  congr 1
  have e' := at_end e
  rw [take_eq] at h1 h2
  by_cases h0 : i = 0
  · have hz := h3 h0
    rw [Lib.size_eq] at hz
    rw [List.length_eq_zero_iff.1 hz]
    rfl
  · refine is_false (i := i) (by omega) (by rw [← Lib.size_eq]; exact hi) (no92 a hok) ?_ h1 h2 e'
    intro j hj h
    apply hne j hj
    rw [bt_get a j 47 h]
    rfl

theorem dir_dot_a : impl_IsDirectoryPath.f (⟨#[46, 47, 97]⟩ : ByteArray) = some true :=
  dir_yes _ (by
    intro j hj
    have hj' : j < 3 := hj
    have : j = 0 ∨ j = 1 ∨ j = 2 := by omega
    rcases this with rfl | rfl | rfl
    · exact .inl rfl
    · exact .inr (.inl rfl)
    · exact .inr (.inr ⟨by decide, by decide⟩)) 1 (by decide) (.inr ⟨by decide, rfl⟩) (.inl (by rw [take_eq]; rfl))
end Go.Proofs.Ytikgnlgmidbclaa.Dir
