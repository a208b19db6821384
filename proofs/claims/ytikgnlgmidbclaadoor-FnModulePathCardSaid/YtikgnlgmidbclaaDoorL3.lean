/- Plain laws on the Lean functions of spec.run and spec.Text: Text answers at most 5200 bytes that begin with the module's line. Condition: FileGood. -/
import Derived.Test.YtikgnlgmidbclaaDoorL2
import Derived.Test.YtikgnlgmidbclaaDoorO12
namespace Go.Proofs.YtikgnlgmidbclaaDoor.Plain
set_option linter.unusedVariables false
set_option linter.unusedSimpArgs false
open Go.RowKit Go.Proofs.YtikgnlgmidbclaaDoor.PFnModulePath Go.Proofs.YtikgnlgmidbclaaDoorW.PrintWords

theorem toNat_add (i m : Nat) : ((i : Int) + (m : Int)).toNat = i + m := by omega
theorem lit3 (x y z : UInt8) : (⟨#[x, y, z]⟩ : ByteArray).size = 3 := rfl

theorem run_ev (l : List S29) (hl : l.length ≤ 30) (i : Nat) (hi : i < l.length) : EvP (fun k => spec_run.f k l (i : Int)) (fun r => 1 ≤ r ∧ (i : Int) + r ≤ l.length) := by
  have go : ∀ (d j : Nat), i < j → j ≤ l.length → l.length - j = d → EvP (fun k => spec_run.l0 k l (i : Int) (j : Int)) (fun r => 1 ≤ r ∧ (i : Int) + r ≤ l.length) := by
    intro d
    induction d with
    | zero =>
      intro j h1 h2 hd
      have e : wrap64 ((j : Int) - (i : Int)) = (j : Int) - (i : Int) := by unfold wrap64; omega
      refine EvP.step (fun k => by rw [spec_run.l0]) ?_
      rw [e]
      exact EvP.neg (by omega) (EvP.now ⟨by omega, by omega⟩)
    | succ d ih =>
      intro j h1 h2 hd
      have e : wrap64 ((j : Int) - (i : Int)) = (j : Int) - (i : Int) := by unfold wrap64; omega
      have e1 : wrap64 ((j : Int) + 1) = ((j + 1 : Nat) : Int) := by unfold wrap64; omega
      refine EvP.step (fun k => by rw [spec_run.l0]) ?_
      rw [e, e1]
      refine EvP.pos (by omega) (EvP.pos (by omega) (EvP.pos (by omega) (EvP.pos (by omega) ?_)))
      exact EvP.ite (fun _ => ih (j + 1) (by omega) (by omega) (by omega)) (fun _ => EvP.now ⟨by omega, by omega⟩)
  unfold spec_run.f
  have e1 : wrap64 ((i : Int) + 1) = ((i + 1 : Nat) : Int) := by unfold wrap64; omega
  refine EvP.step (fun k => by rw [spec_run.l0]) ?_
  rw [e1]
  refine EvP.pos (by omega) (EvP.pos (by omega) (EvP.pos (by omega) (EvP.pos (by omega) (EvP.pos rfl ?_))))
  exact go (l.length - (i + 1)) (i + 1) (by omega) (by omega) rfl

theorem rd_piece (l : List S29) (i n m : Nat) (h : i + n ≤ l.length) (hm : m < n) : rd_T29 ((l.take (i + n)).drop i) (m : Int) = rd_T29 l ((i + m : Nat) : Int) := by
  unfold rd_T29
  rw [Int.toNat_natCast, Int.toNat_natCast, List.getD_eq_getElem?_getD, List.getD_eq_getElem?_getD, List.getElem?_drop, List.getElem?_take_of_lt (by omega)]

theorem text_l1 (l ys : List S29) (pl : List UInt8) (x4 x5 : Int) (m B : Nat) (hyl : ys.length = m)
    (nx : ∀ v : ByteArray, v.size ≤ B + 148 * m + 2 → Head pl v.data.toList → EvP (fun k => spec_Text.l0 k l v (wrap64 (x4 + x5))) (fun r => r.size ≤ 5200 ∧ Head pl r.data.toList))
    (hm : m ≤ 30) (hB : B ≤ 10000)
    (ln : ∀ j : Nat, j < m → EvP (fun k => spec_Line.f k (rd_T29 ys (j : Int)).f0 (rd_T29 ys (j : Int)).f1 (rd_T29 ys (j : Int)).f2) (fun r => r.size ≤ 146)) :
    ∀ (c j : Nat) (u : ByteArray), j ≤ m → m - j = c → u.size ≤ B + 148 * j → Head pl u.data.toList →
      EvP (fun k => spec_Text.l1 k l u x4 x5 ys (ys.length : Int) (j : Int)) (fun r => r.size ≤ 5200 ∧ Head pl r.data.toList) := by
  intro c
  induction c with
  | zero =>
    intro j u hj hc hu hH
    refine EvP.step (fun k => by rw [spec_Text.l1]) ?_
    refine EvP.neg (by omega) (EvP.pos (by omega) ?_)
    exact nx _ (by simp only [ByteArray.size_append, lit2]; omega) (by rw [dappend]; exact hH.append _)
  | succ c ic =>
    intro j u hj hc hu hH
    have hjm : j < m := by omega
    refine EvP.step (fun k => by rw [spec_Text.l1]) ?_
    refine EvP.pos (by omega) (EvP.pos (by omega) (EvP.pos (by omega) ?_))
    refine EvP.bind (ln j hjm) (fun t ht => ?_)
    iterate 3 (refine EvP.pos (by (try simp only [ByteArray.size_append, lit1]); omega) ?_)
    have ej : wrap64 ((j : Int) + 1) = ((j + 1 : Nat) : Int) := by unfold wrap64; omega
    rw [ej]
    exact ic (j + 1) _ (by omega) (by omega) (by simp only [ByteArray.size_append, lit1]; omega) (by rw [dappend]; exact hH.append _)

section
variable (l : List S29) (p : ByteArray) (F : FileGood l) (hp : (rd_T29 l 0).f1 = [p])
include F hp

theorem text_l0 (d : Nat) : ∀ (i : Nat) (x3 : ByteArray), i ≤ l.length → l.length - i ≤ d → x3.size ≤ 170 * i → (i = 0 → x3.data.toList = []) → (0 < i → Head p.data.toList x3.data.toList) →
    EvP (fun k => spec_Text.l0 k l x3 (i : Int)) (fun r => r.size ≤ 5200 ∧ Head p.data.toList r.data.toList) := by
  have F0 := F
  obtain ⟨f1, f2, f3, f4⟩ := F0
  induction d with
  | zero =>
    intro i x3 hi hd hx h0 hH
    refine EvP.step (fun k => by rw [spec_Text.l0]) ?_
    exact EvP.neg (by omega) (EvP.now ⟨by omega, hH (by omega)⟩)
  | succ d ih =>
    intro i x3 hi hd hx h0 hH
    by_cases hlt : i < l.length
    case neg =>
      refine EvP.step (fun k => by rw [spec_Text.l0]) ?_
      exact EvP.neg (by omega) (EvP.now ⟨by omega, hH (by omega)⟩)
    have ew : wrap64 ((i : Int) + 1) = ((i + 1 : Nat) : Int) := by unfold wrap64; omega
    obtain ⟨hfit, _⟩ := f4 i hlt
    obtain ⟨nm, hnm, hn9, hnmod⟩ := name_some _ (fit_kind hfit)
    have first : i = 0 → (rd_T29 l (i : Int)).f0 = 1 ∧ (rd_T29 l (i : Int)).f1 = [p] := fun h => by rw [h]; exact ⟨f3, hp⟩
    -- x4: what stands ahead of this run
    have j2 : ∀ (y : ByteArray) (n : Int) (b : Bool), y.size ≤ 170 * i + 1 → (i = 0 → y.data.toList = []) → (0 < i → Head p.data.toList y.data.toList) → 1 ≤ n → (i : Int) + n ≤ l.length → (i = 0 → b = true) →
        EvP (fun k => spec_Text.j2 k l y (i : Int) n b) (fun r => r.size ≤ 5200 ∧ Head p.data.toList r.data.toList) := by
      intro y n b hy hy0 hyH hn1 hn2 hb
      refine EvP.step (fun k => by rw [spec_Text.j2]) ?_
      refine EvP.ite (fun h => ?_) (fun h => ?_)
      · refine EvP.pos (by omega) (EvP.pos (by omega) ?_)
        rw [hnm, ew]
        refine EvP.bind (EvP.now (P := fun y => y = nm) rfl) (fun z hz => ?_)
        subst hz
        refine EvP.pos (by omega) ?_
        refine EvP.bind (line_ev _ hfit) (fun t ht => ?_)
        have ht1 := ht.1
        iterate 3 (refine EvP.pos (by (try simp only [ByteArray.size_append, lit1]); omega) ?_)
        refine ih (i + 1) _ (by omega) (by omega) (by simp only [ByteArray.size_append, lit1]; omega) (fun h => by omega) (fun _ => ?_)
        by_cases c : i = 0
        · have e := ht.2 (first c).1
          rw [(first c).2] at e
          injection e with e _
          subst e
          refine ⟨[], [32], [], false, [], ?_, by simp, ⟨by simp, by simp⟩, by simp⟩
          simp only [dappend]
          rw [hy0 c, hnmod (first c).1]
          simp [wrapq]
        · rw [dappend]; exact (hyH (by omega)).append _
      · have hi0 : i ≠ 0 := fun h' => h (hb h')
        have en0 : wrap64 ((i : Int) + n) = (i : Int) + n := by unfold wrap64; omega
        have EN := Aside0.mk en0
        clear en0
        obtain ⟨m, rfl⟩ : ∃ m : Nat, n = (m : Int) := ⟨n.toNat, by omega⟩
        have E3 : Aside0 (wrap64 ((i : Int) + (m : Int)) = ((i + m : Nat) : Int)) := ⟨by rw [EN.out]; exact (Int.natCast_add i m).symm⟩
        refine EvP.pos (by omega) (EvP.pos (by omega) ?_)
        rw [hnm, EN.out]
        refine EvP.bind (EvP.now (P := fun y => y = nm) rfl) (fun z hz => ?_)
        subst hz
        refine EvP.pos (by omega) (EvP.pos (by (try simp only [ByteArray.size_append, lit3]); omega) (EvP.pos (by omega) (EvP.pos (by omega) ?_)))
        rw [toNat_add i m, Int.toNat_natCast]
        refine EvP.bind (EvP.now (P := fun y => y = (l.take (i + m)).drop i) rfl) (fun ys hys => ?_)
        have hyl : ys.length = m := by rw [hys, List.length_drop, List.length_take]; omega
        refine text_l1 l ys p.data.toList (i : Int) (m : Int) m (170 * i + 13) hyl (fun v hv hv' => ?_) (by omega) (by omega) (fun j hj => ?_) m 0 _ (by omega) (by omega) (by simp only [ByteArray.size_append, lit3]; omega) (by rw [dappend]; exact (hyH (by omega)).append _)
        · rw [E3.out]
          exact ih (i + m) _ (by omega) (by omega) (by omega) (fun h => by omega) (fun _ => hv')
        · rw [hys, rd_piece l i m j (by omega) hj]
          exact (line_ev _ (f4 (i + j) (by omega)).1).mono fun r hr => hr.1
    have j1 : ∀ (y : ByteArray) (n : Int), y.size ≤ 170 * i + 1 → (i = 0 → y.data.toList = []) → (0 < i → Head p.data.toList y.data.toList) → 1 ≤ n → (i : Int) + n ≤ l.length →
        EvP (fun k => spec_Text.j1 k l y (i : Int) n) (fun r => r.size ≤ 5200 ∧ Head p.data.toList r.data.toList) := by
      intro y n hy hy0 hyH hn1 hn2
      refine EvP.step (fun k => by rw [spec_Text.j1]) ?_
      refine EvP.ite (fun h => j2 y n true hy hy0 hyH hn1 hn2 (fun _ => rfl)) (fun h => ?_)
      refine EvP.pos (by omega) (EvP.pos (by omega) ?_)
      refine EvP.bind (Q := fun b => b = true → (rd_T29 l (i : Int)).f0 ≠ 1) ?_ (fun b hb => ?_)
      · unfold spec_blocked.f
        refine EvP.ite (fun _ => EvP.now (by simp)) (fun h => ?_)
        exact EvP.ite (fun _ => EvP.now (by simp)) (fun _ => EvP.now (fun _ => h))
      · refine j2 y n _ hy hy0 hyH hn1 hn2 (fun h' => ?_)
        cases b with
        | false => rfl
        | true => exact absurd (first h').1 (hb rfl)
    refine EvP.step (fun k => by rw [spec_Text.l0]) ?_
    refine EvP.pos (by omega) ?_
    refine EvP.bind (run_ev l f2 i hlt) (fun n hn => ?_)
    refine EvP.ite (fun h => ?_) (fun h => j1 x3 n (by omega) h0 hH hn.1 hn.2)
    refine EvP.pos (by omega) ?_
    exact j1 _ n (by simp only [ByteArray.size_append, lit1]; omega) (fun h' => by omega) (fun h' => by rw [dappend]; exact (hH h').append _) hn.1 hn.2

theorem text_ev : EvP (fun k => spec_Text.f k l) (fun r => r.size ≤ 5200 ∧ Head p.data.toList r.data.toList) :=
  text_l0 l p F hp l.length 0 (⟨#[]⟩ : ByteArray) (by omega) (by omega) (by decide) (fun _ => rfl) (fun h => by omega)
end
end Go.Proofs.YtikgnlgmidbclaaDoor.Plain
