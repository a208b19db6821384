/- Plain law on the Lean function of spec.Loose: it answers at most 16384 bytes that begin with the module's line. Conditions: FileGood, a style of bytes. -/
import Derived.Test.YtikgnlgmidbclaaDoorL1
namespace Go.Proofs.YtikgnlgmidbclaaDoor.Plain
set_option linter.unusedVariables false
set_option linter.unusedSimpArgs false
open Go.RowKit Go.Proofs.YtikgnlgmidbclaaDoor.PFnModulePath Go.Proofs.YtikgnlgmidbclaaDoorW.PrintWords

def Gap (g : List UInt8) : Prop := g ≠ [] ∧ ∀ b ∈ g, b = 32 ∨ b = 9
/-- The text begins with the module's line. -/
def Head (p : List UInt8) (D : List UInt8) : Prop := ∃ (g1 g2 g3 : List UInt8) (q : Bool) (r : List UInt8), D = g1 ++ modL ++ g2 ++ wrapq q p ++ g3 ++ 10 :: r ∧ (∀ b ∈ g1, b = 32 ∨ b = 9) ∧ Gap g2 ∧ (∀ b ∈ g3, b = 32 ∨ b = 9)
theorem Head.append {p D : List UInt8} (h : Head p D) (E : List UInt8) : Head p (D ++ E) := by
  obtain ⟨g1, g2, g3, q, r, rfl, h1, h2, h3⟩ := h
  exact ⟨g1, g2, g3, q, r ++ E, by simp, h1, h2, h3⟩

theorem name_some (k : Int) (h : 1 ≤ k ∧ k ≤ 11) : ∃ nm, spec_Name.f k = some nm ∧ nm.size ≤ 9 ∧ (k = 1 → nm.data.toList = modL) := by
  have : k = 1 ∨ k = 2 ∨ k = 3 ∨ k = 4 ∨ k = 5 ∨ k = 6 ∨ k = 7 ∨ k = 8 ∨ k = 9 ∨ k = 10 ∨ k = 11 := by omega
  rcases this with rfl | rfl | rfl | rfl | rfl | rfl | rfl | rfl | rfl | rfl | rfl <;> exact ⟨_, rfl, by decide, fun h => by first | rfl | omega⟩
theorem fit_kind {x : S29} (h : Fit x) : 1 ≤ x.f0 ∧ x.f0 ≤ 11 := by
  unfold Fit at h
  rcases h with h | h | h | h | h
  · omega
  · obtain ⟨h, _⟩ := h; omega
  · obtain ⟨h, _⟩ := h; omega
  · obtain ⟨h, _⟩ := h; omega
  · obtain ⟨h, _⟩ := h; omega
theorem good_plain {p : ByteArray} (h : PathGood p) : PlainS p := ⟨fun j hj e => by
  have := h.2.2.1 j hj
  rw [e] at this
  unfold pc alnum at this
  omega, h.2.2.2⟩
theorem dappend (a b : ByteArray) : (a ++ b).data.toList = a.data.toList ++ b.data.toList := by simp

section
variable (l : List S29) (st : List Int) (p : ByteArray) (F : FileGood l) (hp : (rd_T29 l 0).f1 = [p]) (hpg : PathGood p) (hst : ∀ x ∈ st, 0 ≤ x ∧ x ≤ 255)
include F hp hpg hst

theorem loose_l0 (d : Nat) : ∀ (i : Nat) (x5 : ByteArray), i ≤ l.length → l.length - i = d → x5.size ≤ 472 * i → (i = 0 → x5.data.toList = []) → (0 < i → Head p.data.toList x5.data.toList) →
    EvP (fun k => spec_Loose.l0 k st x5 l (l.length : Int) (i : Int)) (fun r => r.size ≤ 16384 ∧ Head p.data.toList r.data.toList) := by
  obtain ⟨f1, f2, f3, f4⟩ := F
  induction d with
  | zero =>
    intro i x5 hi hd hx h0 hH
    refine EvP.step (fun k => by rw [spec_Loose.l0]) ?_
    exact EvP.neg (by omega) (EvP.now ⟨by omega, hH (by omega)⟩)
  | succ d ih =>
    intro i x5 hi hd hx h0 hH
    have hlt : i < l.length := by omega
    have ew : wrap64 ((i : Int) + 1) = ((i + 1 : Nat) : Int) := by unfold wrap64; omega
    obtain ⟨hfit, _⟩ := f4 i hlt
    have hk := fit_kind hfit
    obtain ⟨nm, hnm, hn9, hnmod⟩ := name_some _ hk
    have first : i = 0 → (rd_T29 l (i : Int)).f0 = 1 ∧ (rd_T29 l (i : Int)).f1 = [p] := fun h => by rw [h]; exact ⟨f3, hp⟩
    -- what stands behind a round
    have nxt : ∀ y : ByteArray, y.size ≤ x5.size + 472 → (0 < i → ∃ E, y.data.toList = x5.data.toList ++ E) → (i = 0 → Head p.data.toList y.data.toList) →
        EvP (fun k => spec_Loose.l0 k st y l (l.length : Int) (wrap64 ((i : Int) + 1))) (fun r => r.size ≤ 16384 ∧ Head p.data.toList r.data.toList) := by
      intro y h1 h2 h3
      rw [ew]
      refine ih (i + 1) y (by omega) (by omega) (by omega) (fun h => by omega) (fun _ => ?_)
      by_cases c : i = 0
      · exact h3 c
      · obtain ⟨E, hE⟩ := h2 (by omega)
        rw [hE]; exact (hH (by omega)).append E
    have j3 : ∀ (k8 : Int) (g t : ByteArray) (b : Bool), g.size ≤ 3 → Gap g.data.toList → t.size ≤ 440 → (b = true → (rd_T29 l (i : Int)).f0 ≠ 1) → (i = 0 → ∃ q, t.data.toList = wrapq q p.data.toList) →
        EvP (fun k => spec_Loose.j3 k st x5 k8 g t l (l.length : Int) (i : Int) b (rd_T29 l (i : Int)).f0 (rd_T29 l (i : Int)).f1 (rd_T29 l (i : Int)).f2) (fun r => r.size ≤ 16384 ∧ Head p.data.toList r.data.toList) := by
      intro k8 g t b hg hgap ht hb hq
      refine EvP.step (fun k => by rw [spec_Loose.j3]) ?_
      have hx5 : x5.size ≤ 14160 := by omega
      refine EvP.ite (fun h => ?_) (fun h => ?_)
      · have hi0 : i ≠ 0 := fun h' => hb h (first h').1
        rw [hnm]
        refine EvP.bind (EvP.now (P := fun y => y = nm) rfl) (fun y hy => ?_)
        subst hy
        repeat' first
          | (refine EvP.pos (by (try simp only [ByteArray.size_append, lit1, lit2]); omega) ?_)
          | (refine EvP.ite (fun _ => ?_) (fun _ => ?_))
        · exact nxt _ (by simp only [ByteArray.size_append, lit1, lit2]; omega) (fun _ => ⟨_, by rw [dappend, dappend, List.append_assoc]⟩) (fun h' => absurd h' hi0)
        · exact nxt _ (by simp only [ByteArray.size_append, lit1, lit2]; omega) (fun _ => ⟨_, by rw [dappend]⟩) (fun h' => absurd h' hi0)
      · rw [hnm]
        refine EvP.bind (EvP.now (P := fun y => y = nm) rfl) (fun y hy => ?_)
        subst hy
        have hd : i = 0 → ∀ E, Head p.data.toList ((x5 ++ (((((g ++ y) ++ g) ++ t) ++ g) ++ (⟨#[10]⟩ : ByteArray))).data.toList ++ E) := fun h' E => by
          obtain ⟨q, hq⟩ := hq h'
          refine ⟨g.data.toList, g.data.toList, g.data.toList, q, E, ?_, hgap.2, hgap, hgap.2⟩
          simp only [dappend]
          rw [h0 h', hnmod (first h').1, hq]
          simp
        repeat' first
          | (refine EvP.pos (by (try simp only [ByteArray.size_append, lit1, lit2]); omega) ?_)
          | (refine EvP.ite (fun _ => ?_) (fun _ => ?_))
        · refine nxt _ (by simp only [ByteArray.size_append, lit1, lit2]; omega) (fun _ => ⟨_, by rw [dappend, dappend, List.append_assoc]⟩) (fun h' => ?_)
          rw [dappend]; exact hd h' _
        · refine nxt _ (by simp only [ByteArray.size_append, lit1, lit2]; omega) (fun _ => ⟨_, by rw [dappend]⟩) (fun h' => ?_)
          have := hd h' []
          rwa [List.append_nil] at this
    have j2 : ∀ (k8 : Int) (g t : ByteArray), g.size ≤ 3 → Gap g.data.toList → t.size ≤ 440 → (i = 0 → ∃ q, t.data.toList = wrapq q p.data.toList) →
        EvP (fun k => spec_Loose.j2 k st x5 k8 g t l (l.length : Int) (i : Int) (rd_T29 l (i : Int)).f0 (rd_T29 l (i : Int)).f1 (rd_T29 l (i : Int)).f2) (fun r => r.size ≤ 16384 ∧ Head p.data.toList r.data.toList) := by
      intro k8 g t hg hgap ht hq
      refine EvP.step (fun k => by rw [spec_Loose.j2]) ?_
      refine EvP.bind (Q := fun b => b = true → (rd_T29 l (i : Int)).f0 ≠ 1) ?_ (fun b hb => ?_)
      · unfold spec_blocked.f
        refine EvP.ite (fun _ => EvP.now (by simp)) (fun h => ?_)
        exact EvP.ite (fun _ => EvP.now (by simp)) (fun _ => EvP.now (fun _ => h))
      · exact EvP.ite (fun h => j3 k8 g t _ hg hgap ht (fun _ => hb h) hq) (fun h => j3 k8 g t _ hg hgap ht (by simp) hq)
    have j1 : ∀ k8 : Int, 0 ≤ k8 → EvP (fun k => spec_Loose.j1 k st x5 k8 l (l.length : Int) (i : Int) (rd_T29 l (i : Int)).f0 (rd_T29 l (i : Int)).f1 (rd_T29 l (i : Int)).f2) (fun r => r.size ≤ 16384 ∧ Head p.data.toList r.data.toList) := by
      intro k8 hk8
      refine EvP.step (fun k => by rw [spec_Loose.j1]) ?_
      refine EvP.bind (EvP.now (P := fun y => y = [(⟨#[32]⟩ : ByteArray), (⟨#[32, 32]⟩ : ByteArray), (⟨#[9]⟩ : ByteArray), (⟨#[32, 9, 32]⟩ : ByteArray)]) rfl) (fun y hy => ?_)
      have t0 : 0 ≤ Int.tmod k8 4 := Int.tmod_nonneg _ hk8
      have t4 : Int.tmod k8 4 < 4 := Int.tmod_lt_of_pos _ (by omega)
      obtain ⟨g, hg⟩ : ∃ g, rdOf ByteArray.empty y (Int.tmod k8 4) = g := ⟨_, rfl⟩
      have hgg : g.size ≤ 3 ∧ Gap g.data.toList := by
        rw [← hg, hy]
        have : Int.tmod k8 4 = 0 ∨ Int.tmod k8 4 = 1 ∨ Int.tmod k8 4 = 2 ∨ Int.tmod k8 4 = 3 := by omega
        rcases this with h | h | h | h <;> rw [h]
        · exact ⟨by decide, by decide, by decide⟩
        · exact ⟨by decide, by decide, by decide⟩
        · exact ⟨by decide, by decide, by decide⟩
        · exact ⟨by decide, by decide, by decide⟩
      have hyl : y.length = 4 := by rw [hy]; rfl
      rw [hg]
      refine EvP.pos t0 (EvP.pos (by omega) ?_)
      refine EvP.bind (line_ev _ hfit) (fun t ht => ?_)
      have sp : ∀ q : Bool, EvP (fun k => (spec_spread.f k t g q).bind fun t' => spec_Loose.j2 k st x5 k8 g t' l (l.length : Int) (i : Int) (rd_T29 l (i : Int)).f0 (rd_T29 l (i : Int)).f1 (rd_T29 l (i : Int)).f2) (fun r => r.size ≤ 16384 ∧ Head p.data.toList r.data.toList) := by
        intro q
        refine EvP.bind (spread_ev t g q (by omega) hgg.1) (fun t' ht' => ?_)
        refine j2 k8 g t' hgg.1 hgg.2 (by omega) (fun h' => ?_)
        have e := ht.2 (first h').1
        rw [(first h').2] at e
        injection e with e _
        subst e
        exact ⟨q, ht'.2 (good_plain hpg)⟩
      refine EvP.ite (fun _ => ?_) (fun _ => sp _)
      exact EvP.ite (fun _ => sp _) (fun _ => EvP.ite (fun _ => sp _) (fun _ => EvP.ite (fun _ => sp _) (fun _ => sp _)))
    refine EvP.step (fun k => by rw [spec_Loose.l0]) ?_
    refine EvP.pos (by omega) (EvP.pos (by omega) (EvP.pos (by omega) ?_))
    refine EvP.ite (fun hsl => ?_) (fun _ => j1 0 (by omega))
    have t0 : 0 ≤ Int.tmod (i : Int) (st.length : Int) := Int.tmod_nonneg _ (by omega)
    have t1 : Int.tmod (i : Int) (st.length : Int) < (st.length : Int) := Int.tmod_lt_of_pos _ hsl
    refine EvP.neg (by omega) (EvP.pos t0 (EvP.pos t1 (j1 _ ?_)))
    unfold rd
    rw [List.getD_eq_getElem?_getD, List.getElem?_eq_getElem (by omega)]
    exact (hst _ (List.getElem_mem _)).1

theorem loose_ev : EvP (fun k => spec_Loose.f k l st) (fun r => r.size ≤ 16384 ∧ Head p.data.toList r.data.toList) :=
  loose_l0 l st p F hp hpg hst l.length 0 (⟨#[]⟩ : ByteArray) (by omega) (by omega) (by decide) (fun _ => rfl) (fun h => by omega)
end
end Go.Proofs.YtikgnlgmidbclaaDoor.Plain
