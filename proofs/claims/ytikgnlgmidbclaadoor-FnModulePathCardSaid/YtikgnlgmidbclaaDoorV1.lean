/- Plain laws on the Lean functions of spec.wordOk, figures, goOk, dirOk and Major: each answers, and what a yes says of the size and of the bytes. Condition: a string of at most 2^47 - 4096 bytes. -/
import Derived.Test.YtikgnlgmidbclaaDoorO1
import Derived.Test.YtikgnlgmidbclaaDoorO4
import Derived.Test.YtikgnlgmidbclaaDoorO5
import Derived.Test.YtikgnlgmidbclaaDoorO2
import Derived.Lib.Strings
namespace Go.Proofs.YtikgnlgmidbclaaDoor.Plain
set_option linter.unusedVariables false
set_option linter.unusedSimpArgs false
open Go.RowKit Go.Proofs.YtikgnlgmidbclaaDoor.PFnModulePath Go.Proofs.YtikgnlgmidbclaaDoorW.PrintWords

/-- With enough rounds it answers, always the same, and the answer has P. -/
def EvP {α : Type} (g : Nat → Option α) (P : α → Prop) : Prop := ∃ r, P r ∧ ∃ K, ∀ k, K ≤ k → g k = some r
theorem EvP.now {α : Type} {P : α → Prop} {r : α} (h : P r) : EvP (fun _ => some r) P := ⟨r, h, 0, fun _ _ => rfl⟩
theorem EvP.step {α : Type} {P : α → Prop} {g f : Nat → Option α} (h : ∀ k, g (k + 1) = f k) (k : EvP f P) : EvP g P := by
  obtain ⟨r, hr, K, k⟩ := k
  refine ⟨r, hr, K + 1, fun n hn => ?_⟩
  obtain ⟨m, rfl⟩ : ∃ m, n = m + 1 := ⟨n - 1, by omega⟩
  rw [h]; exact k m (by omega)
theorem EvP.ite {α : Type} {P : α → Prop} {c : Prop} [Decidable c] {a b : Nat → Option α} (h : c → EvP a P) (k : ¬ c → EvP b P) : EvP (fun n => if c then a n else b n) P := by
  by_cases hc : c
  · simpa only [if_pos hc] using h hc
  · simpa only [if_neg hc] using k hc
theorem EvP.bind {α β : Type} {Q : α → Prop} {P : β → Prop} {g : Nat → Option α} {f : Nat → α → Option β} (h : EvP g Q) (k : ∀ a, Q a → EvP (fun n => f n a) P) : EvP (fun n => (g n).bind (f n)) P := by
  obtain ⟨a, ha, K, h⟩ := h
  obtain ⟨r, hr, K', k⟩ := k a ha
  refine ⟨r, hr, max K K', fun n hn => ?_⟩
  show (g n).bind (f n) = some r
  rw [h n (by omega)]
  exact k n (by omega)
theorem EvP.mono {α : Type} {P Q : α → Prop} {g : Nat → Option α} (h : EvP g P) (k : ∀ r, P r → Q r) : EvP g Q := by
  obtain ⟨r, hr, h⟩ := h
  exact ⟨r, k r hr, h⟩
theorem EvP.no {α : Type} {P : α → Prop} {g : Nat → Option α} (h : False) : EvP g P := h.elim
theorem EvP.some_ {α : Type} {P : α → Prop} {g : Nat → Option α} (h : EvP g P) : ∃ r, P r ∧ ∃ k, g k = some r := by
  obtain ⟨r, hr, K, h⟩ := h
  exact ⟨r, hr, K, h K (Nat.le_refl _)⟩

/-- The bool that a function of rounds answers. -/
noncomputable def theB (g : Nat → Option Bool) : Bool := @decide (Ev g true) (Classical.propDecidable _)
theorem theB_of {g : Nat → Option Bool} {P : Bool → Prop} (h : EvP g P) : P (theB g) ∧ ∃ k, g k = some (theB g) := by
  obtain ⟨r, hr, K, h⟩ := h
  have e : theB g = r := by
    unfold theB
    cases r with
    | true => exact @decide_eq_true _ (Classical.propDecidable _) (show Ev g true from ⟨K, h⟩)
    | false =>
      refine @decide_eq_false _ (Classical.propDecidable _) (fun hc => ?_)
      obtain ⟨K', hc⟩ := hc
      have h1 := h (max K K') (by omega)
      rw [hc (max K K') (by omega)] at h1
      cases h1
  rw [e]
  exact ⟨hr, K, h K (Nat.le_refl _)⟩

theorem w1 {x : Int} {n : Nat} (h0 : 0 ≤ x) (h : x ≤ (n : Int)) (hn : n ≤ 140737488351232) : wrap64 (x + 1) = x + 1 := by
  unfold wrap64; omega

/-- the numbers of small letters and figures -/
def alnum (c : Int) : Prop := (97 ≤ c ∧ c ≤ 122) ∨ (48 ≤ c ∧ c ≤ 57)

theorem word_l0 (s : ByteArray) (hn : s.size ≤ 140737488351232) (d : Nat) : ∀ (b : Bool) (i : Int), 0 ≤ i → i ≤ s.size → (s.size : Int) - i = d → (∀ j : Nat, (j : Int) < i → alnum (bt s j)) →
    EvP (fun k => spec_wordOk.l0 k s b i) (fun r => r = true → s.size ≤ 12 ∧ 0 < s.size ∧ ∀ j : Nat, j < s.size → alnum (bt s j)) := by
  induction d with
  | zero =>
    intro b i h0 h1 hd hp
    refine EvP.step (fun k => by rw [spec_wordOk.l0]) ?_
    have hall : ∀ j : Nat, j < s.size → alnum (bt s j) := fun j hj => hp j (by omega)
    refine EvP.ite (fun h => EvP.no (by omega)) (fun h => ?_)
    repeat' (refine EvP.ite (fun _ => ?_) (fun _ => ?_))
    all_goals first
      | exact EvP.no (by omega)
      | (refine EvP.now (fun hr => ⟨?_, by omega, hall⟩); simp at hr; omega)
      | (refine EvP.now (fun hr => ?_); simp at hr)
  | succ d ih =>
    intro b i h0 h1 hd hp
    refine EvP.step (fun k => by rw [spec_wordOk.l0]) ?_
    refine EvP.ite (fun h => ?_) (fun h => EvP.no (by omega))
    have go : ∀ (b : Bool), alnum (bt s i) → EvP (fun k => spec_wordOk.l0 k s b (wrap64 (i + 1))) (fun r => r = true → s.size ≤ 12 ∧ 0 < s.size ∧ ∀ j : Nat, j < s.size → alnum (bt s j)) := by
      intro b hc
      rw [w1 h0 h1 hn]
      refine ih b (i + 1) (by omega) (by omega) (by omega) (fun j hj => ?_)
      by_cases e : (j : Int) = i
      · rw [e]; exact hc
      · exact hp j (by omega)
    repeat' (refine EvP.ite (fun _ => ?_) (fun _ => ?_))
    all_goals first
      | exact go _ (by unfold alnum; omega)
      | (refine EvP.now (fun hr => ?_); simp at hr; done)
      | exact EvP.no (by omega)

theorem word_ev (s : ByteArray) (hn : s.size ≤ 140737488351232) : EvP (fun k => spec_wordOk.f k s) (fun r => r = true → s.size ≤ 12 ∧ 0 < s.size ∧ ∀ j : Nat, j < s.size → alnum (bt s j)) :=
  word_l0 s hn s.size true 0 (by omega) (by omega) (by omega) (fun j hj => by omega)

theorem figures_ev (s : ByteArray) (hn : s.size ≤ 140737488351232) : EvP (fun k => spec_figures.f k s) (fun _ => True) := by
  have go : ∀ (d : Nat) (i : Int), 0 ≤ i → i ≤ s.size → (s.size : Int) - i = d → EvP (fun k => spec_figures.l0 k s i) (fun _ => True) := by
    intro d
    induction d with
    | zero =>
      intro i h0 h1 hd
      refine EvP.step (fun k => by rw [spec_figures.l0]) ?_
      exact EvP.ite (fun h => EvP.no (by omega)) (fun h => EvP.now trivial)
    | succ d ih =>
      intro i h0 h1 hd
      refine EvP.step (fun k => by rw [spec_figures.l0]) ?_
      rw [w1 h0 h1 hn]
      refine EvP.ite (fun h => ?_) (fun h => EvP.now trivial)
      refine EvP.ite (fun h => ?_) (fun h => EvP.no (by omega))
      exact EvP.ite (fun h => EvP.now trivial) (fun h => EvP.ite (fun h => EvP.now trivial) (fun h => ih (i + 1) (by omega) (by omega) (by omega)))
  exact go s.size 0 (by omega) (by omega) (by omega)

theorem ext_size (s : ByteArray) (a b : Nat) (h : b ≤ s.size) : (s.extract a b).size = b - a := by
  rw [ByteArray.size_extract, Nat.min_eq_left h]

theorem go_ev (s : ByteArray) (hn : s.size ≤ 140737488351232) : EvP (fun k => spec_goOk.f k s) (fun r => r = true → s.size ≤ 6) := by
  unfold spec_goOk.f
  refine EvP.ite (fun h => EvP.now (by simp)) (fun h => ?_)
  refine EvP.ite (fun _ => ?_) (fun h => EvP.no (by omega))
  refine EvP.ite (fun _ => ?_) (fun h => EvP.no (by omega))
  refine EvP.ite (fun _ => ?_) (fun h => EvP.now (by simp))
  refine EvP.ite (fun _ => ?_) (fun h => EvP.no (by omega))
  refine EvP.ite (fun _ => ?_) (fun h => EvP.no (by omega))
  refine EvP.bind (figures_ev _ (by rw [ext_size _ _ _ (by omega)]; omega)) (fun a _ => ?_)
  refine EvP.ite (fun _ => ?_) (fun h => EvP.now (by simp))
  refine EvP.ite (fun _ => ?_) (fun h => EvP.no (by omega))
  refine EvP.ite (fun _ => EvP.now (by simp)) (fun h => ?_)
  refine EvP.ite (fun _ => EvP.now (fun _ => by omega)) (fun h => ?_)
  refine EvP.ite (fun _ => ?_) (fun h => EvP.now (by simp))
  refine EvP.ite (fun _ => ?_) (fun h => EvP.no (by omega))
  refine EvP.ite (fun _ => ?_) (fun h => EvP.now (by simp))
  refine EvP.ite (fun _ => ?_) (fun h => EvP.no (by omega))
  refine EvP.bind (figures_ev _ (by rw [ext_size _ _ _ (by omega)]; omega)) (fun a _ => ?_)
  exact EvP.now (fun _ => by omega)

theorem dir_ev (s : ByteArray) (hn : s.size ≤ 140737488351232) : EvP (fun k => spec_dirOk.f k s) (fun r => r = true → s.size ≤ 15) := by
  have j0 : ∀ b : Bool, (b = true → 3 < s.size) → EvP (fun k => spec_dirOk.j0 k s b) (fun r => r = true → s.size ≤ 15) := by
    intro b hb
    refine EvP.step (fun k => by rw [spec_dirOk.j0]) ?_
    refine EvP.ite (fun h => ?_) (fun h => ?_)
    · have := hb h
      refine EvP.ite (fun _ => ?_) (fun h => EvP.no (by omega))
      refine EvP.bind (word_ev _ (by rw [ext_size _ _ _ (Nat.le_refl _)]; omega)) (fun a ha => EvP.now (fun hr => ?_))
      have h2 := (ha hr).1
      rw [ext_size _ _ _ (Nat.le_refl _)] at h2
      omega
    · refine EvP.ite (fun _ => ?_) (fun h => EvP.now (by simp))
      refine EvP.ite (fun _ => ?_) (fun h => EvP.no (by omega))
      refine EvP.ite (fun _ => ?_) (fun h => EvP.no (by omega))
      refine EvP.ite (fun _ => ?_) (fun h => EvP.now (by simp))
      refine EvP.bind (word_ev _ (by rw [ext_size _ _ _ (Nat.le_refl _)]; omega)) (fun a ha => EvP.now (fun hr => ?_))
      have h2 := (ha hr).1
      rw [ext_size _ _ _ (Nat.le_refl _)] at h2
      omega
  unfold spec_dirOk.f
  refine EvP.ite (fun h => ?_) (fun h => j0 _ (by simp))
  refine EvP.ite (fun _ => ?_) (fun h => EvP.no (by omega))
  refine EvP.ite (fun _ => j0 _ (fun _ => by omega)) (fun h => EvP.no (by omega))

theorem major_some (s : ByteArray) (hn : s.size ≤ 140737488351232) : ∃ r, 0 ≤ r ∧ spec_Major.f s = some r := by
  unfold spec_Major.f
  by_cases h : (s.size : Int) > 3
  · have e3 : wrap64 ((s.size : Int) - 3) = (s.size : Int) - 3 := by unfold wrap64; omega
    have e2 : wrap64 ((s.size : Int) - 2) = (s.size : Int) - 2 := by unfold wrap64; omega
    have e1 : wrap64 ((s.size : Int) - 1) = (s.size : Int) - 1 := by unfold wrap64; omega
    simp only [e1, e2, e3]
    rw [if_pos h, if_pos (by omega), if_pos (by omega)]
    by_cases h1 : bt s ((s.size : Int) - 3) = 47
    · rw [if_pos h1, if_pos (by omega), if_pos (by omega)]
      by_cases h2 : bt s ((s.size : Int) - 2) = 118
      · rw [if_pos h2, if_pos (by omega), if_pos (by omega)]
        split
        · split
          · exact ⟨_, by omega, rfl⟩
          · exact ⟨_, by omega, rfl⟩
        · exact ⟨_, by omega, rfl⟩
      · rw [if_neg h2]; exact ⟨_, by omega, rfl⟩
    · rw [if_neg h1]; exact ⟨_, by omega, rfl⟩
  · rw [if_neg h]; exact ⟨_, by omega, rfl⟩
theorem major_ev (s : ByteArray) (hn : s.size ≤ 140737488351232) : EvP (fun _ => spec_Major.f s) (fun _ => True) := by
  obtain ⟨r, _, h⟩ := major_some s hn
  rw [h]
  exact EvP.now trivial
end Go.Proofs.YtikgnlgmidbclaaDoor.Plain
