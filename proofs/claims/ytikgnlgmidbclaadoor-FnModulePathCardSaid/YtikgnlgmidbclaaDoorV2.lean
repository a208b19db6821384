/- Plain laws on the Lean functions of spec.versionOk and spec.pathOk: each answers, and what a yes says of the size and of the bytes. Condition: strings of at most 2^47 - 4096 bytes. -/
import Derived.Test.YtikgnlgmidbclaaDoorV1
import Derived.Test.YtikgnlgmidbclaaDoorO3
import Derived.Lib.IndexBytes
namespace Go.Proofs.YtikgnlgmidbclaaDoor.Plain
set_option linter.unusedVariables false
set_option linter.unusedSimpArgs false
open Go.RowKit Go.Proofs.YtikgnlgmidbclaaDoor.PFnModulePath Go.Proofs.YtikgnlgmidbclaaDoorW.PrintWords

section
variable (p s : ByteArray) (hp : p.size ≤ 140737488351232) (h6 : 6 ≤ s.size) (h20 : s.size ≤ 20)
include hp h6 h20

omit hp in
theorem ver_word (x : Int) (h0 : 0 ≤ x) (h1 : x < (s.size : Int)) (f : Nat → Bool → Option Bool)
    (hf : ∀ t : Bool, (t = true → x + 1 < (s.size : Int)) → EvP (fun n => f n t) (fun r => r = true → s.size ≤ 20)) :
    EvP (fun n => (spec_wordOk.f n (s.extract (x + 1).toNat s.size)).bind (f n)) (fun r => r = true → s.size ≤ 20) := by
  refine EvP.bind (word_ev _ (by rw [ext_size _ _ _ (Nat.le_refl _)]; omega)) (fun t ht => hf t (fun e => ?_))
  have := (ht e).2.1
  rw [ext_size _ _ _ (Nat.le_refl _)] at this
  omega

theorem ver_l0 (d : Nat) : ∀ (x5 x6 x22 : Int), 0 ≤ x5 → x5 ≤ s.size → 0 ≤ x22 → 3 - x22 = d →
    EvP (fun k => spec_versionOk.l0 k p s x5 x6 x22) (fun r => r = true → s.size ≤ 20) := by
  induction d with
  | zero =>
    intro x5 x6 x22 h0 h1 hx hd
    refine EvP.step (fun k => by rw [spec_versionOk.l0]) ?_
    refine EvP.ite (fun h => EvP.no (by omega)) (fun h => ?_)
    rw [w1 h0 h1 (by omega)]
    repeat' first
      | (refine EvP.ite (fun _ => ?_) (fun _ => ?_))
      | (refine EvP.bind (major_ev p hp) (fun _ _ => ?_))
      | exact EvP.now (fun _ => by omega)
      | (exfalso; omega)
      | (refine ver_word s h6 h20 x5 (by omega) (by omega) _ (fun t ht => ?_))
    all_goals exact EvP.no (by
      rename_i ha hb
      have := ht ha
      omega)
  | succ d ih =>
    intro x5 x6 x22 h0 h1 hx hd
    refine EvP.step (fun k => by rw [spec_versionOk.l0]) ?_
    refine EvP.ite (fun h => ?_) (fun h => EvP.no (by omega))
    have e22 : wrap64 (x22 + 1) = x22 + 1 := by unfold wrap64; omega
    have nx : ∀ (y5 y6 : Int), 0 ≤ y5 → y5 ≤ s.size → EvP (fun k => spec_versionOk.l0 k p s y5 y6 (wrap64 (x22 + 1))) (fun r => r = true → s.size ≤ 20) := by
      intro y5 y6 g0 g1
      rw [e22]
      exact ih y5 y6 (x22 + 1) g0 g1 (by omega) (by omega)
    have j5 : ∀ (y5 y6 : Int), 0 ≤ y5 → y5 ≤ s.size → EvP (fun k => spec_versionOk.j5 k p s y5 y6 x22 x22) (fun r => r = true → s.size ≤ 20) := by
      intro y5 y6 g0 g1
      refine EvP.step (fun k => by rw [spec_versionOk.j5]) ?_
      rw [w1 g0 g1 (by omega)]
      refine EvP.ite (fun _ => ?_) (fun _ => nx _ _ g0 g1)
      refine EvP.ite (fun _ => EvP.now (by simp)) (fun _ => ?_)
      refine EvP.ite (fun _ => ?_) (fun _ => EvP.no (by omega))
      refine EvP.ite (fun _ => ?_) (fun _ => EvP.no (by omega))
      exact EvP.ite (fun _ => nx _ _ (by omega) (by omega)) (fun _ => EvP.now (by simp))
    have j4 : ∀ (y5 y6 y8 : Int) (b : Bool), 0 ≤ y8 → y8 ≤ y5 → y5 ≤ s.size → (b = false → y8 < y5) → EvP (fun k => spec_versionOk.j4 k p s y5 y6 x22 y8 x22 b) (fun r => r = true → s.size ≤ 20) := by
      intro y5 y6 y8 b g0 g1 g2 g3
      refine EvP.step (fun k => by rw [spec_versionOk.j4]) ?_
      refine EvP.ite (fun _ => EvP.now (by simp)) (fun hb => ?_)
      have := g3 (by simpa using hb)
      refine EvP.ite (fun _ => ?_) (fun _ => j5 _ _ (by omega) g2)
      refine EvP.ite (fun _ => ?_) (fun _ => EvP.no (by omega))
      refine EvP.ite (fun _ => ?_) (fun _ => EvP.no (by omega))
      exact EvP.ite (fun _ => EvP.now (by simp)) (fun _ => j5 _ _ (by omega) g2)
    have j3 : ∀ (y5 y6 y8 : Int), 0 ≤ y8 → y8 ≤ y5 → y5 ≤ s.size → EvP (fun k => spec_versionOk.j3 k p s y5 y6 x22 y8 x22) (fun r => r = true → s.size ≤ 20) := by
      intro y5 y6 y8 g0 g1 g2
      refine EvP.step (fun k => by rw [spec_versionOk.j3]) ?_
      have ew : wrap64 (y5 - y8) = y5 - y8 := by unfold wrap64; omega
      rw [ew]
      refine EvP.ite (fun _ => j4 _ _ _ _ g0 g1 g2 (by simp)) (fun _ => ?_)
      refine EvP.ite (fun _ => j4 _ _ _ _ g0 g1 g2 (by simp)) (fun _ => ?_)
      refine EvP.ite (fun _ => ?_) (fun _ => j4 _ _ _ _ g0 g1 g2 (fun _ => by omega))
      refine EvP.ite (fun _ => ?_) (fun _ => EvP.no (by omega))
      exact EvP.ite (fun _ => j4 _ _ _ _ g0 g1 g2 (fun _ => by omega)) (fun _ => EvP.no (by omega))
    have l1 : ∀ (m : Nat) (y5 y6 y8 : Int), 0 ≤ y8 → y8 ≤ y5 → y5 ≤ s.size → (s.size : Int) - y5 = m → EvP (fun k => spec_versionOk.l1 k p s y5 y6 x22 y8 x22) (fun r => r = true → s.size ≤ 20) := by
      intro m
      induction m with
      | zero =>
        intro y5 y6 y8 g0 g1 g2 gd
        refine EvP.step (fun k => by rw [spec_versionOk.l1]) ?_
        exact EvP.ite (fun _ => EvP.no (by omega)) (fun _ => j3 _ _ _ g0 g1 g2)
      | succ m im =>
        intro y5 y6 y8 g0 g1 g2 gd
        refine EvP.step (fun k => by rw [spec_versionOk.l1]) ?_
        rw [w1 (by omega) g2 (by omega)]
        refine EvP.ite (fun _ => ?_) (fun _ => EvP.no (by omega))
        refine EvP.ite (fun _ => ?_) (fun _ => EvP.no (by omega))
        refine EvP.ite (fun _ => ?_) (fun _ => j3 _ _ _ g0 g1 g2)
        exact EvP.ite (fun _ => im _ _ _ g0 (by omega) (by omega) (by omega)) (fun _ => j3 _ _ _ g0 g1 g2)
    exact l1 (s.size - x5.toNat) x5 x6 x5 h0 (by omega) h1 (by omega)
end

theorem ver_ev (p s : ByteArray) (hp : p.size ≤ 140737488351232) : EvP (fun k => spec_versionOk.f k p s) (fun r => r = true → s.size ≤ 20) := by
  have j1 : EvP (fun k => spec_versionOk.j0 k p s true) (fun r => r = true → s.size ≤ 20) := by
    refine EvP.step (fun k => by rw [spec_versionOk.j0]) ?_
    exact EvP.ite (fun _ => EvP.now (by simp)) (fun h => EvP.no (by simp at h))
  unfold spec_versionOk.f
  refine EvP.ite (fun _ => j1) (fun _ => ?_)
  refine EvP.ite (fun _ => j1) (fun _ => ?_)
  refine EvP.ite (fun _ => ?_) (fun _ => EvP.no (by omega))
  refine EvP.step (fun k => by rw [spec_versionOk.j0]) ?_
  exact EvP.ite (fun _ => EvP.now (by simp)) (fun _ => ver_l0 p s hp (by omega) (by omega) 3 1 (-1) 0 (by omega) (by omega) (by omega) (by omega))

/-- the bytes of a path -/
def pc (c : Int) : Prop := alnum c ∨ c = 47 ∨ c = 46
/-- What is wanted of a module's path: at most 50 bytes, of letters, figures, dots and strokes, no two strokes side by side. -/
def PathGood (s : ByteArray) : Prop := s.size ≤ 50 ∧ 11 < s.size ∧ (∀ j : Nat, j < s.size → pc (bt s j)) ∧ ∀ j : Nat, j + 1 < s.size → ¬ (bt s (j : Nat) = 47 ∧ bt s ((j + 1 : Nat) : Int) = 47)

theorem bt_nat (s : ByteArray) (j : Nat) (h : j < s.size) : bt s (j : Int) = (s[j].toNat : Int) := by
  unfold bt
  simp only [Int.toNat_natCast]
  rw [dif_pos h]
theorem bt_ext (s : ByteArray) (a b j : Nat) (hb : b ≤ s.size) (hj : a + j < b) : bt (s.extract a b) (j : Int) = bt s ((a + j : Nat) : Int) := by
  have h1 : j < (s.extract a b).size := by rw [ext_size _ _ _ hb]; omega
  rw [bt_nat _ _ h1, bt_nat _ _ (by omega), ByteArray.getElem_extract]

section
variable (s rest : ByteArray) (hs : s.size ≤ 140737488351232) (hr : rest.size ≤ 40) (hr0 : 0 < rest.size)
include hs hr hr0

theorem path_l0 (d : Nat) : ∀ (x3 x4 i : Int), 0 ≤ x3 → x3 ≤ i → 0 ≤ x4 → x4 ≤ i → i ≤ rest.size + 1 → (i = rest.size + 1 → x4 = i) → (rest.size : Int) + 1 - i = d →
    (∀ j : Nat, (j : Int) < x4 → j < rest.size → alnum (bt rest j) ∨ bt rest j = 47) → (∀ j : Nat, x4 ≤ j → (j : Int) < i → bt rest j ≠ 47) →
    (∀ j : Nat, ((j + 1 : Nat) : Int) < x4 → j + 1 < rest.size → ¬ (bt rest (j : Nat) = 47 ∧ bt rest ((j + 1 : Nat) : Int) = 47)) →
    EvP (fun k => spec_pathOk.l0 k s x3 x4 rest i) (fun r => r = true → (∀ j : Nat, j < rest.size → alnum (bt rest j) ∨ bt rest j = 47) ∧ ∀ j : Nat, j + 1 < rest.size → ¬ (bt rest (j : Nat) = 47 ∧ bt rest ((j + 1 : Nat) : Int) = 47)) := by
  induction d with
  | zero =>
    intro x3 x4 i h30 h3 h40 h4 hi hx hd A B C
    refine EvP.step (fun k => by rw [spec_pathOk.l0]) ?_
    refine EvP.ite (fun _ => EvP.no (by omega)) (fun _ => ?_)
    refine EvP.ite (fun _ => ?_) (fun _ => EvP.no (by omega))
    refine EvP.ite (fun _ => ?_) (fun _ => EvP.now (by simp))
    refine EvP.ite (fun _ => ?_) (fun _ => EvP.now (by simp))
    refine EvP.ite (fun _ => ?_) (fun _ => EvP.now (by simp))
    exact EvP.bind (major_ev s hs) (fun _ _ => EvP.now (fun _ => ⟨fun j hj => A j (by omega) hj, fun j hj => C j (by omega) hj⟩))
  | succ d ih =>
    intro x3 x4 i h30 h3 h40 h4 hi hx hd A B C
    refine EvP.step (fun k => by rw [spec_pathOk.l0]) ?_
    have ei : wrap64 (i + 1) = i + 1 := by unfold wrap64; omega
    have e3 : wrap64 (x3 + 1) = x3 + 1 := by unfold wrap64; omega
    have jn : (i < rest.size → bt rest i = 47) → EvP (fun k => spec_pathOk.j2 k s x3 x4 rest i false) (fun r => r = true → (∀ j : Nat, j < rest.size → alnum (bt rest j) ∨ bt rest j = 47) ∧ ∀ j : Nat, j + 1 < rest.size → ¬ (bt rest (j : Nat) = 47 ∧ bt rest ((j + 1 : Nat) : Int) = 47)) := by
      intro h47
      refine EvP.step (fun k => by rw [spec_pathOk.j2]) ?_
      rw [ei, e3]
      refine EvP.ite (fun h => EvP.no (by simp at h)) (fun _ => ?_)
      refine EvP.ite (fun hlt => ?_) (fun hge => ?_)
      · refine EvP.ite (fun _ => ?_) (fun _ => EvP.no (by omega))
        refine EvP.ite (fun _ => ?_) (fun _ => EvP.no (by omega))
        refine EvP.ite (fun _ => ?_) (fun _ => EvP.no (by omega))
        refine EvP.bind (word_ev _ (by rw [ext_size _ _ _ (by omega)]; omega)) (fun t ht => ?_)
        refine EvP.ite (fun e => ?_) (fun _ => EvP.now (by simp))
        have W := (ht e).2.2
        rw [ext_size _ _ _ (by omega)] at W
        have W' : ∀ j : Nat, x4 ≤ j → (j : Int) < i → alnum (bt rest j) := by
          intro j g1 g2
          have := W (j - x4.toNat) (by omega)
          rw [bt_ext _ _ _ _ (by omega) (by omega)] at this
          rwa [show x4.toNat + (j - x4.toNat) = j from by omega] at this
        refine ih (x3 + 1) (i + 1) (i + 1) (by omega) (by omega) (by omega) (by omega) (by omega) (by omega) (by omega) ?_ (fun j g1 g2 => by omega) ?_
        · intro j g1 g2
          by_cases c1 : (j : Int) < x4
          · exact A j c1 g2
          · by_cases c2 : (j : Int) < i
            · exact .inl (W' j (by omega) c2)
            · have : (j : Int) = i := by omega
              exact .inr (by rw [this]; exact h47 (by omega))
        · intro j g1 g2 g3
          by_cases c1 : ((j + 1 : Nat) : Int) < x4
          · exact C j c1 g2 g3
          · by_cases c2 : x4 ≤ j
            · have := W' j c2 (by omega)
              unfold alnum at this
              omega
            · have := W' (j + 1) (by omega) (by omega)
              unfold alnum at this
              omega
      · refine EvP.ite (fun _ => EvP.now (by simp)) (fun h0 => ?_)
        have hi0 : i = 0 := by omega
        refine ih x3 (i + 1) (i + 1) (by omega) (by omega) (by omega) (by omega) (by omega) (by omega) (by omega) ?_ (fun j g1 g2 => by omega) (fun j g1 g2 => by omega)
        intro j g1 g2
        have : (j : Int) = i := by omega
        exact .inr (by rw [this]; exact h47 (by omega))
    refine EvP.ite (fun _ => ?_) (fun _ => EvP.no (by omega))
    refine EvP.ite (fun hlt => ?_) (fun hge => jn (fun h => by omega))
    refine EvP.ite (fun _ => ?_) (fun _ => EvP.no (by omega))
    by_cases h47 : bt rest i = 47
    · rw [show (bt rest i != 47) = false from bne_eq_false_iff_eq.mpr h47]
      exact jn (fun _ => h47)
    · rw [show (bt rest i != 47) = true from bne_iff_ne.mpr h47]
      refine EvP.step (fun k => by rw [spec_pathOk.j2]) ?_
      rw [ei]
      refine EvP.ite (fun _ => ?_) (fun h => EvP.no (by simp at h))
      refine ih x3 x4 (i + 1) h30 (by omega) h40 (by omega) (by omega) (by omega) (by omega) A ?_ C
      intro j g1 g2
      by_cases c : (j : Int) = i
      · rw [c]; exact h47
      · exact B j g1 (by omega)
end

theorem host_at (s : ByteArray) (h11 : 11 < s.size) (h : (s.extract 0 11).toList = ([101, 120, 97, 109, 112, 108, 101, 46, 99, 111, 109] : List UInt8)) (j : Nat) (hj : j < 11) :
    bt s j = (([101, 120, 97, 109, 112, 108, 101, 46, 99, 111, 109] : List UInt8).getD j 0).toNat := by
  rw [Lib.toList_data] at h
  rw [← h, bt_nat _ _ (by omega)]
  congr 1
  rw [Lib.extract_data]
  simp only [List.drop_zero, Nat.sub_zero]
  rw [List.getD_eq_getElem?_getD, List.getElem?_take_of_lt hj]
  rw [Lib.data_getElem? s j (by omega)]
  rfl

theorem path_ev (s : ByteArray) (hs : s.size ≤ 140737488351232) : EvP (fun k => spec_pathOk.f k s) (fun r => r = true → PathGood s) := by
  have j1 : EvP (fun k => spec_pathOk.j0 k s true) (fun r => r = true → PathGood s) := by
    refine EvP.step (fun k => by rw [spec_pathOk.j0]) ?_
    exact EvP.ite (fun _ => EvP.now (by simp)) (fun h => EvP.no (by simp at h))
  unfold spec_pathOk.f
  refine EvP.ite (fun _ => j1) (fun h11 => ?_)
  refine EvP.ite (fun _ => ?_) (fun _ => EvP.no (by omega))
  refine EvP.ite (fun _ => ?_) (fun _ => EvP.no (by omega))
  refine EvP.ite (fun hh => ?_) (fun _ => j1)
  refine EvP.step (fun k => by rw [spec_pathOk.j0]) ?_
  refine EvP.ite (fun _ => EvP.now (by simp)) (fun h50 => ?_)
  refine EvP.ite (fun _ => ?_) (fun _ => EvP.no (by omega))
  have hsz : (s.extract 11 s.size).size = s.size - 11 := ext_size _ _ _ (Nat.le_refl _)
  have h50' : s.size ≤ 50 := by simp at h50; omega
  refine (path_l0 s (s.extract 11 s.size) hs (by omega) (by omega) ((s.extract 11 s.size).size + 1) 0 0 0 (by omega) (by omega) (by omega) (by omega) (by omega) (by omega) (by omega) (fun j g1 g2 => by omega) (fun j g1 g2 => by omega) (fun j g1 g2 => by omega)).mono ?_
  intro r hr e
  obtain ⟨A, C⟩ := hr e
  have X : ∀ j : Nat, j < s.size - 11 → bt (s.extract 11 s.size) (j : Int) = bt s ((11 + j : Nat) : Int) := fun j hj => bt_ext _ _ _ _ (Nat.le_refl _) (by omega)
  have B : ∀ j : Nat, 11 ≤ j → j < s.size → alnum (bt s j) ∨ bt s j = 47 := by
    intro j g1 g2
    have := A (j - 11) (by omega)
    rw [X _ (by omega), show 11 + (j - 11) = j from by omega] at this
    exact this
  refine ⟨h50', by omega, fun j hj => ?_, fun j hj => ?_⟩
  · by_cases c : j < 11
    · have := host_at s (by omega) hh j c
      rw [this]
      unfold pc alnum
      have : j = 0 ∨ j = 1 ∨ j = 2 ∨ j = 3 ∨ j = 4 ∨ j = 5 ∨ j = 6 ∨ j = 7 ∨ j = 8 ∨ j = 9 ∨ j = 10 := by omega
      rcases this with rfl | rfl | rfl | rfl | rfl | rfl | rfl | rfl | rfl | rfl | rfl <;> simp
    · rcases B j (by omega) hj with h | h
      · exact .inl h
      · exact .inr (.inl h)
  · by_cases c : j < 11
    · have := host_at s (by omega) hh j c
      intro hc
      rw [this] at hc
      have : j = 0 ∨ j = 1 ∨ j = 2 ∨ j = 3 ∨ j = 4 ∨ j = 5 ∨ j = 6 ∨ j = 7 ∨ j = 8 ∨ j = 9 ∨ j = 10 := by omega
      rcases this with rfl | rfl | rfl | rfl | rfl | rfl | rfl | rfl | rfl | rfl | rfl <;> simp at hc
    · have := C (j - 11) (by omega)
      rw [X _ (by omega), X _ (by omega), show 11 + (j - 11) = j from by omega, show 11 + (j - 11 + 1) = j + 1 from by omega] at this
      exact this
end Go.Proofs.YtikgnlgmidbclaaDoor.Plain
