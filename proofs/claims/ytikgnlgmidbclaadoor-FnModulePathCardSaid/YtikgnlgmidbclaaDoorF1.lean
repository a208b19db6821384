/- spec.EntryOk answers entryB of its entry; what a yes says of the fields; spec.Key and spec.Line answer at such an entry. Condition: fields of at most 2^47 - 4096 bytes. -/
import Derived.Test.YtikgnlgmidbclaaDoorE1
import Derived.Test.YtikgnlgmidbclaaDoorE2
import Derived.Test.YtikgnlgmidbclaaDoorE3
import Derived.Test.YtikgnlgmidbclaaDoorE4
import Derived.Test.YtikgnlgmidbclaaDoorO8
namespace Go.Proofs.YtikgnlgmidbclaaDoor.Plain
set_option linter.unusedVariables false
set_option linter.unusedSimpArgs false
open Go.RowKit Go.Proofs.YtikgnlgmidbclaaDoor.PFnModulePath Go.Proofs.YtikgnlgmidbclaaDoorW.PrintWords

theorem len1 {fs : List ByteArray} (h : fs.length = 1) : ∃ a, fs = [a] := by
  match fs, h with
  | [a], _ => exact ⟨a, rfl⟩
theorem len2 {fs : List ByteArray} (h : fs.length = 2) : ∃ a b, fs = [a, b] := by
  match fs, h with
  | [a, b], _ => exact ⟨a, b, rfl⟩
theorem len3 {fs : List ByteArray} (h : fs.length = 3) : ∃ a b c, fs = [a, b, c] := by
  match fs, h with
  | [a, b, c], _ => exact ⟨a, b, c, rfl⟩
theorem len4 {fs : List ByteArray} (h : fs.length = 4) : ∃ a b c d, fs = [a, b, c, d] := by
  match fs, h with
  | [a, b, c, d], _ => exact ⟨a, b, c, d, rfl⟩
def at1 (f : ByteArray → Bool) : List ByteArray → Bool
  | [a] => f a
  | _ => false
def at2 (f : ByteArray → ByteArray → Bool) : List ByteArray → Bool
  | [a, b] => f a b
  | _ => false
def at3 (f : ByteArray → ByteArray → ByteArray → Bool) : List ByteArray → Bool
  | [a, b, c] => f a b c
  | _ => false
def at4 (f : ByteArray → ByteArray → ByteArray → ByteArray → Bool) : List ByteArray → Bool
  | [a, b, c, d] => f a b c d
  | _ => false
theorem not1 {fs : List ByteArray} (h : fs.length ≠ 1) (f : ByteArray → Bool) : at1 f fs = false := by
  match fs, h with
  | [], _ => rfl
  | [a], h => exact absurd rfl h
  | _ :: _ :: _, _ => rfl
theorem not2 {fs : List ByteArray} (h : fs.length ≠ 2) (f : ByteArray → ByteArray → Bool) : at2 f fs = false := by
  match fs, h with
  | [], _ => rfl
  | [a], h => rfl
  | [a, b], h => exact absurd rfl h
  | _ :: _ :: _ :: _, _ => rfl
theorem not3 {fs : List ByteArray} (h : fs.length ≠ 3) (f : ByteArray → ByteArray → ByteArray → Bool) : at3 f fs = false := by
  match fs, h with
  | [], _ => rfl
  | [a], h => rfl
  | [a, b], h => rfl
  | [a, b, c], h => exact absurd rfl h
  | _ :: _ :: _ :: _ :: _, _ => rfl
theorem not4 {fs : List ByteArray} (h : fs.length ≠ 4) (f : ByteArray → ByteArray → ByteArray → ByteArray → Bool) : at4 f fs = false := by
  match fs, h with
  | [], _ => rfl
  | [a], h => rfl
  | [a, b], h => rfl
  | [a, b, c], h => rfl
  | [a, b, c, d], h => exact absurd rfl h
  | _ :: _ :: _ :: _ :: _ :: _, _ => rfl
theorem at1_yes {fs : List ByteArray} {f : ByteArray → Bool} (h : at1 f fs = true) : ∃ a, fs = [a] ∧ f a = true := by
  by_cases hl : fs.length = 1
  · obtain ⟨a, rfl⟩ := len1 hl; exact ⟨a, rfl, h⟩
  · rw [not1 hl] at h; cases h
theorem at2_yes {fs : List ByteArray} {f : ByteArray → ByteArray → Bool} (h : at2 f fs = true) : ∃ a b, fs = [a, b] ∧ f a b = true := by
  by_cases hl : fs.length = 2
  · obtain ⟨a, b, rfl⟩ := len2 hl; exact ⟨a, b, rfl, h⟩
  · rw [not2 hl] at h; cases h
theorem at3_yes {fs : List ByteArray} {f : ByteArray → ByteArray → ByteArray → Bool} (h : at3 f fs = true) : ∃ a b c, fs = [a, b, c] ∧ f a b c = true := by
  by_cases hl : fs.length = 3
  · obtain ⟨a, b, c, rfl⟩ := len3 hl; exact ⟨a, b, c, rfl, h⟩
  · rw [not3 hl] at h; cases h
theorem at4_yes {fs : List ByteArray} {f : ByteArray → ByteArray → ByteArray → ByteArray → Bool} (h : at4 f fs = true) : ∃ a b c d, fs = [a, b, c, d] ∧ f a b c d = true := by
  by_cases hl : fs.length = 4
  · obtain ⟨a, b, c, d, rfl⟩ := len4 hl; exact ⟨a, b, c, d, rfl, h⟩
  · rw [not4 hl] at h; cases h

/-- What spec.EntryOk answers, the mark left aside. -/
noncomputable def kindB (k : Int) (fs : List ByteArray) : Bool :=
  if k = 1 then at1 pathB fs
  else if k = 2 then at1 goB fs
  else if k = 3 then at1 toolB fs
  else if k = 4 then at2 (fun a b => wordB a && wordB b) fs
  else if k = 5 then at2 (fun a b => pathB a && verB a b) fs
  else if k = 6 then at2 (fun a b => pathB a && verB a b) fs
  else if k = 7 then at4 replB fs
  else if k = 8 then at3 retrB fs
  else if k = 9 then at1 pathB fs
  else if k = 10 then at1 dirB fs
  else if k = 11 then at1 dirB fs
  else false
/-- What spec.EntryOk answers. -/
noncomputable def entryB (k : Int) (fs : List ByteArray) (ind : Bool) : Bool := if ind = true ∧ k ≠ 5 then false else kindB k fs

def Sized (fs : List ByteArray) : Prop := ∀ f ∈ fs, f.size ≤ 140737488351232

theorem entry_calls (k : Int) (fs : List ByteArray) (ind : Bool) (A : Option Addr) (cp : Nat) (w : World) (hr : Kd.C Kd.string w A fs.length fs) (hc : fs.length ≤ cp) (hs : Sized fs) :
    Calls Tryd.prog 10 #[.agg #[.int .i64 k, .slice A fs.length cp, .bool ind]] w fun e w' => e = .returned (.bool (entryB k fs ind)) ∧ Below w.heap.size w w' := by
  by_cases hm : ind = true ∧ k ≠ 5
  · have hv : entryB k fs ind = false := by unfold entryB; rw [if_pos hm]
    obtain ⟨rfl, hk⟩ := hm
    rw [hv]
    exact entry_mark A cp k fs w hk
  have hv0 : entryB k fs ind = kindB k fs := by unfold entryB; rw [if_neg hm]
  rw [hv0]
  unfold kindB
  have hi : k ≠ 5 → ind = false := fun h => by
    cases ind with
    | false => rfl
    | true => exact absurd ⟨rfl, h⟩ hm
  clear hm hv0
  by_cases k1 : k = 1
  · subst k1; rw [if_pos rfl, hi (by omega)]
    by_cases hl : fs.length = 1
    · obtain ⟨a, rfl⟩ := len1 hl
      exact entry1 A cp a w hr hc (hs a (by simp))
    · rw [not1 hl]; exact entry1_no A cp fs w hl
  rw [if_neg k1]
  by_cases k2 : k = 2
  · subst k2; rw [if_pos rfl, hi (by omega)]
    by_cases hl : fs.length = 1
    · obtain ⟨a, rfl⟩ := len1 hl
      exact entry2 A cp a w hr hc (hs a (by simp))
    · rw [not1 hl]; exact entry2_no A cp fs w hl
  rw [if_neg k2]
  by_cases k3 : k = 3
  · subst k3; rw [if_pos rfl, hi (by omega)]
    by_cases hl : fs.length = 1
    · obtain ⟨a, rfl⟩ := len1 hl
      exact entry3 A cp a w hr hc (hs a (by simp))
    · rw [not1 hl]; exact entry3_no A cp fs w hl
  rw [if_neg k3]
  by_cases k4 : k = 4
  · subst k4; rw [if_pos rfl, hi (by omega)]
    by_cases hl : fs.length = 2
    · obtain ⟨a, b, rfl⟩ := len2 hl
      exact entry4 A cp a b w hr hc (hs a (by simp)) (hs b (by simp))
    · rw [not2 hl]; exact entry4_no A cp fs w hl
  rw [if_neg k4]
  by_cases k5 : k = 5
  · subst k5; rw [if_pos rfl]
    by_cases hl : fs.length = 2
    · obtain ⟨a, b, rfl⟩ := len2 hl
      cases ind with
      | true => exact entry5i A cp a b w hr hc (hs a (by simp)) (hs b (by simp))
      | false => exact entry5 A cp a b w hr hc (hs a (by simp)) (hs b (by simp))
    · rw [not2 hl]
      cases ind with
      | true => exact entry5i_no A cp fs w hl
      | false => exact entry5_no A cp fs w hl
  rw [if_neg k5, hi k5]
  by_cases k6 : k = 6
  · subst k6; rw [if_pos rfl]
    by_cases hl : fs.length = 2
    · obtain ⟨a, b, rfl⟩ := len2 hl
      exact entry6 A cp a b w hr hc (hs a (by simp)) (hs b (by simp))
    · rw [not2 hl]; exact entry6_no A cp fs w hl
  rw [if_neg k6]
  by_cases k7 : k = 7
  · subst k7; rw [if_pos rfl]
    by_cases hl : fs.length = 4
    · obtain ⟨a, b, c, d, rfl⟩ := len4 hl
      exact entry7 A cp a b c d w hr hc (hs a (by simp)) (hs b (by simp)) (hs c (by simp)) (hs d (by simp))
    · rw [not4 hl]; exact entry7_no A cp fs w hl
  rw [if_neg k7]
  by_cases k8 : k = 8
  · subst k8; rw [if_pos rfl]
    by_cases hl : fs.length = 3
    · obtain ⟨a, b, c, rfl⟩ := len3 hl
      exact entry8 A cp a b c w hr hc (hs a (by simp)) (hs b (by simp)) (hs c (by simp))
    · rw [not3 hl]; exact entry8_no A cp fs w hl
  rw [if_neg k8]
  by_cases k9 : k = 9
  · subst k9; rw [if_pos rfl]
    by_cases hl : fs.length = 1
    · obtain ⟨a, rfl⟩ := len1 hl
      exact entry9 A cp a w hr hc (hs a (by simp))
    · rw [not1 hl]; exact entry9_no A cp fs w hl
  rw [if_neg k9]
  by_cases k10 : k = 10
  · subst k10; rw [if_pos rfl]
    by_cases hl : fs.length = 1
    · obtain ⟨a, rfl⟩ := len1 hl
      exact entry10 A cp a w hr hc (hs a (by simp))
    · rw [not1 hl]; exact entry10_no A cp fs w hl
  rw [if_neg k10]
  by_cases k11 : k = 11
  · subst k11; rw [if_pos rfl]
    by_cases hl : fs.length = 1
    · obtain ⟨a, rfl⟩ := len1 hl
      exact entry11 A cp a w hr hc (hs a (by simp))
    · rw [not1 hl]; exact entry11_no A cp fs w hl
  rw [if_neg k11]
  exact entry_other A cp k fs w (by omega)

/-- What a yes of EntryOk says. -/
def Fit (x : S29) : Prop :=
  (x.f0 = 1 ∧ x.f2 = false ∧ ∃ a, x.f1 = [a] ∧ PathGood a) ∨
  ((x.f0 = 2 ∨ x.f0 = 3 ∨ x.f0 = 9 ∨ x.f0 = 10 ∨ x.f0 = 11) ∧ ∃ a, x.f1 = [a] ∧ a.size ≤ 50) ∨
  ((x.f0 = 4 ∨ x.f0 = 5 ∨ x.f0 = 6) ∧ ∃ a b, x.f1 = [a, b] ∧ a.size ≤ 50 ∧ b.size ≤ 20) ∨
  (x.f0 = 7 ∧ ∃ a b c d, x.f1 = [a, b, c, d] ∧ a.size ≤ 50 ∧ b.size ≤ 20 ∧ c.size ≤ 50 ∧ d.size ≤ 20) ∨
  (x.f0 = 8 ∧ ∃ a b c, x.f1 = [a, b, c] ∧ a.size ≤ 20 ∧ b.size ≤ 20)

theorem empty_size {b : ByteArray} (h : (b.toList == ([] : List UInt8)) = true) : b.size ≤ 20 := by
  have := beq_iff_eq.mp h
  rw [Lib.toList_data] at this
  rw [Lib.size_eq, this]
  simp

theorem tool_size {a : ByteArray} (hs : a.size ≤ 140737488351232) (h : toolB a = true) : a.size ≤ 50 := by
  unfold toolB at h
  rcases Bool.or_eq_true _ _ ▸ h with h | h
  · have := beq_iff_eq.mp h
    rw [Lib.toList_data] at this
    rw [Lib.size_eq, this]
    simp
  · simp only [Bool.and_eq_true] at h
    have := goB_size (by rw [ext_size _ _ _ (Nat.le_refl _)]; omega) h.2
    rw [ext_size _ _ _ (Nat.le_refl _)] at this
    omega

theorem entry_fit (x : S29) (hs : Sized x.f1) (h : entryB x.f0 x.f1 x.f2 = true) : Fit x := by
  obtain ⟨k, fs, ind⟩ := x
  simp only at hs h
  unfold entryB at h
  by_cases hm : ind = true ∧ k ≠ 5
  · rw [if_pos hm] at h; cases h
  rw [if_neg hm] at h
  unfold kindB at h
  by_cases k1 : k = 1
  · rw [if_pos k1] at h
    have hi : ind = false := by
      cases ind with
      | false => rfl
      | true => exact absurd ⟨rfl, by omega⟩ hm
    have h' := at1_yes h; clear h; obtain ⟨a, rfl, h⟩ := h'
    exact .inl ⟨k1, hi, _, rfl, pathB_good (hs _ (by simp)) h⟩
  rw [if_neg k1] at h
  by_cases k2 : k = 2
  · rw [if_pos k2] at h
    have h' := at1_yes h; clear h; obtain ⟨a, rfl, h⟩ := h'
    exact .inr (.inl ⟨.inl k2, _, rfl, by have := goB_size (hs _ (by simp)) h; omega⟩)
  rw [if_neg k2] at h
  by_cases k3 : k = 3
  · rw [if_pos k3] at h
    have h' := at1_yes h; clear h; obtain ⟨a, rfl, h⟩ := h'
    exact .inr (.inl ⟨.inr (.inl k3), _, rfl, tool_size (hs _ (by simp)) h⟩)
  rw [if_neg k3] at h
  by_cases k4 : k = 4
  · rw [if_pos k4] at h
    have h' := at2_yes h; clear h; obtain ⟨a, b, rfl, h⟩ := h'
    simp only [Bool.and_eq_true] at h
    exact .inr (.inr (.inl ⟨.inl k4, _, _, rfl, by have := wordB_size (hs _ (by simp)) h.1; omega, by have := wordB_size (hs _ (by simp)) h.2; omega⟩))
  rw [if_neg k4] at h
  by_cases k5 : k = 5
  · rw [if_pos k5] at h
    have h' := at2_yes h; clear h; obtain ⟨a, b, rfl, h⟩ := h'
    simp only [Bool.and_eq_true] at h
    exact .inr (.inr (.inl ⟨.inr (.inl k5), _, _, rfl, (pathB_good (hs _ (by simp)) h.1).1, verB_size (hs _ (by simp)) h.2⟩))
  rw [if_neg k5] at h
  by_cases k6 : k = 6
  · rw [if_pos k6] at h
    have h' := at2_yes h; clear h; obtain ⟨a, b, rfl, h⟩ := h'
    simp only [Bool.and_eq_true] at h
    exact .inr (.inr (.inl ⟨.inr (.inr k6), _, _, rfl, (pathB_good (hs _ (by simp)) h.1).1, verB_size (hs _ (by simp)) h.2⟩))
  rw [if_neg k6] at h
  by_cases k7 : k = 7
  · rw [if_pos k7] at h
    · have h' := at4_yes h; clear h; obtain ⟨a, b, c, d, rfl, h⟩ := h'
      unfold replB at h
      simp only [Bool.and_eq_true, Bool.or_eq_true] at h
      obtain ⟨⟨ha, hb⟩, hcd⟩ := h
      have hb' : b.size ≤ 20 := by
        rcases hb with hb | hb
        · exact empty_size hb
        · exact verB_size (hs a (by simp)) hb
      have hcd' : c.size ≤ 50 ∧ d.size ≤ 20 := by
        rcases hcd with hc | hc
        · exact ⟨by have := dirB_size (hs c (by simp)) hc.1; omega, empty_size hc.2⟩
        · exact ⟨(pathB_good (hs c (by simp)) hc.1).1, verB_size (hs c (by simp)) hc.2⟩
      exact .inr (.inr (.inr (.inl ⟨k7, a, b, c, d, rfl, (pathB_good (hs a (by simp)) ha).1, hb', hcd'.1, hcd'.2⟩)))
  rw [if_neg k7] at h
  by_cases k8 : k = 8
  · rw [if_pos k8] at h
    · have h' := at3_yes h; clear h; obtain ⟨a, b, c, rfl, h⟩ := h'
      unfold retrB at h
      simp only [Bool.and_eq_true] at h
      exact .inr (.inr (.inr (.inr ⟨k8, a, b, c, rfl, verB_size (by decide) h.1.2, verB_size (by decide) h.2⟩)))
  rw [if_neg k8] at h
  by_cases k9 : k = 9
  · rw [if_pos k9] at h
    have h' := at1_yes h; clear h; obtain ⟨a, rfl, h⟩ := h'
    exact .inr (.inl ⟨.inr (.inr (.inl k9)), _, rfl, (pathB_good (hs _ (by simp)) h).1⟩)
  rw [if_neg k9] at h
  by_cases k10 : k = 10
  · rw [if_pos k10] at h
    have h' := at1_yes h; clear h; obtain ⟨a, rfl, h⟩ := h'
    exact .inr (.inl ⟨.inr (.inr (.inr (.inl k10))), _, rfl, by have := dirB_size (hs _ (by simp)) h; omega⟩)
  rw [if_neg k10] at h
  by_cases k11 : k = 11
  · rw [if_pos k11] at h
    have h' := at1_yes h; clear h; obtain ⟨a, rfl, h⟩ := h'
    exact .inr (.inl ⟨.inr (.inr (.inr (.inr k11))), _, rfl, by have := dirB_size (hs _ (by simp)) h; omega⟩)
  rw [if_neg k11] at h
  cases h
end Go.Proofs.YtikgnlgmidbclaaDoor.Plain
