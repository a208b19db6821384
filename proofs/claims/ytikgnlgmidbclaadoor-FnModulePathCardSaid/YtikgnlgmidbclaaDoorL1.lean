/- Plain laws on the Lean functions of spec.spread and spec.Loose: each answers; how long the text is, and how it begins. Conditions: FileGood, a style of bytes. -/
import Derived.Test.YtikgnlgmidbclaaDoorF3
import Derived.Test.YtikgnlgmidbclaaDoorM3
import Derived.Test.YtikgnlgmidbclaaDoorO10
namespace Go.Proofs.YtikgnlgmidbclaaDoor.Plain
set_option linter.unusedVariables false
set_option linter.unusedSimpArgs false
open Go.RowKit Go.Proofs.YtikgnlgmidbclaaDoor.PFnModulePath Go.Proofs.YtikgnlgmidbclaaDoorW.PrintWords

theorem strOfNums_size (xs : List Int) : (strOfNums xs).size = xs.length := by
  unfold strOfNums
  rw [Lib.size_eq]
  simp
def wrapq (q : Bool) (l : List UInt8) : List UInt8 := if q = true then 34 :: (l ++ [34]) else l
/-- nothing that spread changes -/
def PlainS (s : ByteArray) : Prop := (∀ j : Nat, j < s.size → bt s j ≠ 32) ∧ ∀ j : Nat, j + 1 < s.size → ¬ (bt s (j : Nat) = 47 ∧ bt s ((j + 1 : Nat) : Int) = 47)
def preq (q : Bool) : List UInt8 := if q = true then [34] else []

theorem numsB_snoc (l : List UInt8) (b : UInt8) : numsB (l ++ [b]) = numsB l ++ [(b.toNat : Int)] := by simp [numsB]

section
variable (s g : ByteArray) (q : Bool) (hs : s.size ≤ 1000) (hg : g.size ≤ 3)
include hs hg

theorem spread_l0 (d : Nat) : ∀ (i : Nat) (x7 : List Int) (first : Bool), i ≤ s.size → s.size - i = d → x7.length + (if first = true then 1 else 0) ≤ 3 * i + 2 → (PlainS s → first = true ∧ x7 = numsB (preq q ++ s.data.toList.take i)) →
    EvP (fun k => spec_spread.l0 k s g q x7 first (i : Int)) (fun r => r.size ≤ 3 * s.size + 2 ∧ (PlainS s → r.data.toList = wrapq q s.data.toList)) := by
  have hl : s.data.toList.length = s.size := (Lib.size_eq s).symm
  have fin : ∀ (x7 : List Int), x7.length ≤ 3 * s.size + 2 → (PlainS s → q = false ∧ x7 = numsB s.data.toList) → (strOfNums x7).size ≤ 3 * s.size + 2 ∧ (PlainS s → (strOfNums x7).data.toList = wrapq q s.data.toList) := by
    intro x7 h1 h2
    refine ⟨by rw [strOfNums_size]; exact h1, fun hp => ?_⟩
    obtain ⟨hq, hx⟩ := h2 hp
    rw [hx, strOf_numsB, hq]
    rfl
  induction d with
  | zero =>
    intro i x7 first hi hd hx hp
    refine EvP.step (fun k => by rw [spec_spread.l0]) ?_
    refine EvP.neg (by omega) ?_
    have hti : s.data.toList.take i = s.data.toList := List.take_of_length_le (by omega)
    refine EvP.ite (fun h1 => ?_) (fun h1 => ?_)
    · rw [if_pos h1] at hx
      refine EvP.ite (fun h2 => ?_) (fun h2 => ?_)
      · refine EvP.pos (by omega) ?_
        refine EvP.now ⟨by rw [strOfNums_size]; simp; omega, fun hpl => ?_⟩
        obtain ⟨_, hx7⟩ := hp hpl
        rw [hx7, hti, show (34 : Int) = (((34 : UInt8).toNat : Nat) : Int) from rfl, ← numsB_snoc, strOf_numsB]
        unfold preq wrapq
        rw [if_pos h2, if_pos h2]
        rfl
      · refine EvP.now (fin x7 (by omega) (fun hpl => ?_))
        obtain ⟨_, hx7⟩ := hp hpl
        have hq : q = false := by simpa using h2
        refine ⟨hq, ?_⟩
        rw [hx7, hti, hq]; rfl
    · rw [if_neg h1] at hx
      exact EvP.now (fin x7 (by omega) (fun hpl => absurd (hp hpl).1 h1))
  | succ d ih =>
    intro i x7 first hi hd hx hp
    have hlt : i < s.size := by omega
    have ew : wrap64 ((i : Int) + 1) = ((i + 1 : Nat) : Int) := by unfold wrap64; omega
    refine EvP.step (fun k => by rw [spec_spread.l0]) ?_
    refine EvP.pos (by omega) (EvP.pos (by omega) ?_)
    rw [ew]
    have hsn : s.data.toList.take (i + 1) = s.data.toList.take i ++ [s[i]] := by
      rw [List.take_succ_eq_append_getElem (by omega)]; rfl
    have hbt : bt s (i : Int) = (s[i].toNat : Int) := bt_nat s i hlt
    have j2 : ∀ b : Bool, (b = true → ¬ PlainS s) → EvP (fun k => spec_spread.j2 k s g q x7 first (i : Int) b) (fun r => r.size ≤ 3 * s.size + 2 ∧ (PlainS s → r.data.toList = wrapq q s.data.toList)) := by
      intro b hb
      refine EvP.step (fun k => by rw [spec_spread.j2]) ?_
      rw [ew]
      have hx' : x7.length ≤ 3 * i + 2 := by split at hx <;> omega
      refine EvP.ite (fun h => ?_) (fun h => ?_)
      · have hsz : (s.extract (i : Int).toNat s.size).size = s.size - i := by rw [Int.toNat_natCast, ext_size _ _ _ (Nat.le_refl _)]
        refine EvP.pos (by omega) (EvP.pos (by omega) (EvP.pos (by omega) ?_))
        refine EvP.now ⟨?_, fun hpl => absurd hpl (hb h)⟩
        rw [strOfNums_size, List.length_append, bytesOf_length, hsz]
        omega
      · refine EvP.pos (by omega) (EvP.pos (by omega) ?_)
        refine EvP.ite (fun h32 => ?_) (fun h32 => ?_)
        · have hno : ¬ PlainS s := fun hpl => hpl.1 i hlt h32
          have glen : (bytesOf g).length = g.size := bytesOf_length g
          refine EvP.ite (fun hf => ?_) (fun hf => ?_)
          · rw [if_pos hf] at hx
            refine EvP.ite (fun hq => ?_) (fun hq => ?_)
            · refine EvP.pos (by omega) ?_
              refine EvP.bind (EvP.now (P := fun y => y = x7 ++ [34]) rfl) (fun y hy => ?_)
              subst hy
              refine EvP.pos (by simp; omega) ?_
              exact ih (i + 1) _ false (by omega) (by omega) (by simp [glen]; omega) (fun hpl => absurd hpl hno)
            · refine EvP.pos (by omega) ?_
              exact ih (i + 1) _ false (by omega) (by omega) (by simp [glen]; omega) (fun hpl => absurd hpl hno)
          · rw [if_neg hf] at hx
            refine EvP.pos (by omega) ?_
            exact ih (i + 1) _ false (by omega) (by omega) (by simp [glen]; omega) (fun hpl => absurd hpl hno)
        · refine EvP.pos (by omega) ?_
          refine ih (i + 1) _ first (by omega) (by omega) (by rw [List.length_append]; simp only [List.length_singleton]; omega) (fun hpl => ?_)
          obtain ⟨hf, hx7⟩ := hp hpl
          refine ⟨hf, ?_⟩
          rw [hx7, hbt, hsn, ← List.append_assoc, numsB_snoc]
    refine EvP.ite (fun h47 => ?_) (fun _ => j2 false (by simp))
    refine EvP.ite (fun hlt1 => ?_) (fun _ => j2 false (by simp))
    refine EvP.pos (by omega) ?_
    refine j2 _ (fun hb hpl => ?_)
    exact hpl.2 i (by omega) ⟨h47, by simpa using hb⟩

theorem spread_ev : EvP (fun k => spec_spread.f k s g q) (fun r => r.size ≤ 3 * s.size + 2 ∧ (PlainS s → r.data.toList = wrapq q s.data.toList)) := by
  unfold spec_spread.f
  refine EvP.bind (EvP.now (P := fun y => y = ([] : List Int)) rfl) (fun y hy => ?_)
  subst hy
  refine EvP.ite (fun hq => ?_) (fun hq => ?_)
  · refine EvP.pos (by simp) ?_
    refine EvP.step (fun k => by rw [spec_spread.j0]) ?_
    exact spread_l0 s g q hs hg s.size 0 _ true (by omega) (by omega) (by simp) (fun _ => ⟨rfl, by unfold preq; rw [if_pos hq]; rfl⟩)
  · refine EvP.step (fun k => by rw [spec_spread.j0]) ?_
    exact spread_l0 s g q hs hg s.size 0 _ true (by omega) (by omega) (by simp) (fun _ => ⟨rfl, by unfold preq; rw [if_neg hq]; rfl⟩)
end
end Go.Proofs.YtikgnlgmidbclaaDoor.Plain
