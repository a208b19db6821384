/- Plain laws on the Lean functions of spec.Key, Line, Name, blocked and spread at an entry that EntryOk lets by: each answers, and how long the text of Line is. Condition: the entry fits (Fit). -/
import Derived.Test.YtikgnlgmidbclaaDoorF1
import Derived.Test.YtikgnlgmidbclaaDoorO7
import Derived.Test.YtikgnlgmidbclaaDoorO9
namespace Go.Proofs.YtikgnlgmidbclaaDoor.Plain
set_option linter.unusedVariables false
set_option linter.unusedSimpArgs false
open Go.RowKit Go.Proofs.YtikgnlgmidbclaaDoor.PFnModulePath Go.Proofs.YtikgnlgmidbclaaDoorW.PrintWords

theorem EvP.pos {α : Type} {P : α → Prop} {c : Prop} [Decidable c] {a b : Nat → Option α} (hc : c) (h : EvP a P) : EvP (fun n => if c then a n else b n) P := by
  simpa only [if_pos hc] using h
theorem EvP.neg {α : Type} {P : α → Prop} {c : Prop} [Decidable c] {a b : Nat → Option α} (hc : ¬ c) (h : EvP b P) : EvP (fun n => if c then a n else b n) P := by
  simpa only [if_neg hc] using h

theorem rd0 (a : ByteArray) (l : List ByteArray) : rdOf ByteArray.empty (a :: l) 0 = a := rfl
theorem rd1 (a b : ByteArray) (l : List ByteArray) : rdOf ByteArray.empty (a :: b :: l) 1 = b := rfl
theorem rd2 (a b c : ByteArray) (l : List ByteArray) : rdOf ByteArray.empty (a :: b :: c :: l) 2 = c := rfl
theorem rd3 (a b c d : ByteArray) (l : List ByteArray) : rdOf ByteArray.empty (a :: b :: c :: d :: l) 3 = d := rfl
theorem lit0 : (⟨#[]⟩ : ByteArray).size = 0 := rfl
theorem lit1 (x : UInt8) : (⟨#[x]⟩ : ByteArray).size = 1 := rfl
theorem lit2 (x y : UInt8) : (⟨#[x, y]⟩ : ByteArray).size = 2 := rfl
theorem lit4 (x y z v : UInt8) : (⟨#[x, y, z, v]⟩ : ByteArray).size = 4 := rfl
theorem lit12 (a b c d e f g h i j k l : UInt8) : (⟨#[a, b, c, d, e, f, g, h, i, j, k, l]⟩ : ByteArray).size = 12 := rfl

/-- spec.Key answers. -/
theorem key_ev (x : S29) (h : Fit x) : EvP (fun k => spec_Key.f k x.f0 x.f1 x.f2) (fun _ => True) := by
  obtain ⟨k, fs, ind⟩ := x
  unfold Fit at h
  simp only at h ⊢
  rcases h with ⟨hk, hi, a, rfl, ha⟩ | ⟨hk, a, rfl, ha⟩ | ⟨hk, a, b, rfl, ha, hb⟩ | ⟨hk, a, b, c, d, rfl, ha, hb, hc, hd⟩ | ⟨hk, a, b, c, rfl, ha, hb⟩
  case' inl => have ha := ha.1
  all_goals
    unfold spec_Key.f
    first
      | (refine EvP.neg (by omega) ?_)
      | (refine EvP.ite (fun _ => ?_) (fun _ => ?_))
    all_goals
      refine EvP.step (fun k => by rw [spec_Key.j0]) ?_
      simp only [rd0, rd1, rd2, rd3, List.length_cons, List.length_nil, ByteArray.size_append, lit1, beq_iff_eq]
      repeat' first
        | exact EvP.now trivial
        | (refine EvP.pos (by omega) ?_)
        | (refine EvP.neg (by omega) ?_)
        | (refine EvP.ite (fun _ => ?_) (fun _ => ?_))

/-- spec.Line answers at most 146 bytes; of a module its path. -/
theorem line_ev (x : S29) (h : Fit x) : EvP (fun k => spec_Line.f k x.f0 x.f1 x.f2) (fun r => r.size ≤ 146 ∧ (x.f0 = 1 → x.f1 = [r])) := by
  obtain ⟨k, fs, ind⟩ := x
  unfold Fit at h
  simp only at h ⊢
  rcases h with ⟨hk, hi, a, rfl, ha⟩ | ⟨hk, a, rfl, ha⟩ | ⟨hk, a, b, rfl, ha, hb⟩ | ⟨hk, a, b, c, d, rfl, ha, hb, hc, hd⟩ | ⟨hk, a, b, c, rfl, ha, hb⟩
  case' inl => have ha := ha.1
  all_goals
    unfold spec_Line.f
    simp only [rd0, rd1, rd2, rd3, List.length_cons, List.length_nil, ByteArray.size_append, lit1, lit2, lit4, lit12, beq_iff_eq]
    repeat' first
      | (refine EvP.now ⟨by (try simp only [ByteArray.size_append, lit1, lit2, lit4, lit12]); omega, fun _ => by first | rfl | omega⟩)
      | (refine EvP.pos (by omega) ?_)
      | (refine EvP.neg (by omega) ?_)
      | (refine EvP.ite (fun _ => ?_) (fun _ => ?_))
      | (refine EvP.step (fun k => by rw [spec_Line.j0]) ?_; simp only [rd0, rd1, rd2, rd3, List.length_cons, List.length_nil, ByteArray.size_append, lit1, lit2, lit4, lit12, beq_iff_eq])
end Go.Proofs.YtikgnlgmidbclaaDoor.Plain
