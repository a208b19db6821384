/- The walks of strconv.unquote and Unquote at a text of plain letters in double quotation marks: the letters come back. Conditions: PlainL, at most 1000 letters, and the tables of utf8. -/
import Derived.Test.YtikgnlgmidbclaaDoorU1
import Derived.Lib.IndexBytes
import Derived.Lib.Hide
import Derived.Lib.ValidLaws
namespace Go.Proofs.YtikgnlgmidbclaaDoor.Plain
set_option linter.unusedVariables false
set_option linter.unusedSimpArgs false
open Go.RowKit Go.Proofs.YtikgnlgmidbclaaDoorW.PrintWords

set_option maxHeartbeats 1000000 in
set_option maxRecDepth 100000 in
theorem unquote_walk (q : ByteArray) (n : Nat) (w : World) (hn : Hid (q.size = n + 2)) (hn9 : n ≤ 1000)
    (h34 : ∀ h : 0 < q.size, ((q[0]'h).toNat : Int) = 34)
    (ci : ∀ W, Calls Tryd.prog 37 #[.string (q.extract 1 q.size), .int .u8 34] W fun e w' => e = .returned (.int .i64 (n : Int)) ∧ W = w')
    (c92 : ∀ W, Calls Tryd.prog 38 #[.string (q.extract 0 (n + 2)), .int .u8 92] W fun e w' => e = .returned (.bool false) ∧ W = w')
    (c10 : ∀ W, Calls Tryd.prog 38 #[.string (q.extract 0 (n + 2)), .int .u8 10] W fun e w' => e = .returned (.bool false) ∧ W = w')
    (cv : Calls Tryd.prog 39 #[.string (q.extract 1 (n + 1))] w fun e w' => e = .returned (.bool true) ∧ Below w.heap.size w w') :
    Calls Tryd.prog 33 #[.string q, .bool true] w fun e w' => e = .returned (.tuple #[.string ((q.extract 0 (n + 2)).extract 1 (n + 1)), .string (q.extract (n + 2) q.size), .nilIface]) ∧ Below w.heap.size w w' := by
  have f1 : decide ((q.size : Int) < 2) = false := decide_eq_false (by have := hn.out; omega)
  have f2 : decide (q.size < 2) = false := decide_eq_false (by have := hn.out; omega)
  have f3 : (0 < q.size) = True := eq_true (by have := hn.out; omega)
  have f4 : (0 < (q.size : Int)) = True := eq_true (by have := hn.out; omega)
  have f5 : (1 ≤ (q.size : Int)) = True := eq_true (by have := hn.out; omega)
  have f6 : (1 ≤ q.size) = True := eq_true (by have := hn.out; omega)
  have f7 : decide ((n : Int) < 0) = false := decide_eq_false (by omega)
  have f8 : ((n : Int) + 2 ≤ (q.size : Int)) = True := eq_true (by have := hn.out; omega)
  have f9 : (n + 2 ≤ q.size) = True := eq_true (by have := hn.out; omega)
  have fa : ((n : Int) + 1 ≤ (q.size : Int)) = True := eq_true (by have := hn.out; omega)
  have fb : (n + 1 ≤ q.size) = True := eq_true (by have := hn.out; omega)
  have e1 : (n : Int) + 2 - 1 = (n : Int) + 1 := by omega
  have fc : (1 ≤ (n : Int) + 1) = True := eq_true (by omega)
  have fd : (0 ≤ (n : Int)) = True := eq_true (by omega)
  go_enter Tryd.func33, Tryd.ntmps33
  go_wp2_with (first | (go_at_call 37; refine (ci _).mono ?_; rintro e w' ⟨rfl, rfl⟩) | (go_at_call 38; (first | (with_reducible refine (c92 _).mono ?_) | (with_reducible refine (c10 _).mono ?_)); rintro e w' ⟨rfl, rfl⟩) | (go_at_call 39; (with_reducible refine cv.mono ?_); rintro e w' ⟨rfl, hb⟩))
  go_quiet (fail)
  go_wp2
  go_ret3
  exact ⟨rfl, pw_below_drewN hb _⟩

set_option maxHeartbeats 1000000 in
set_option maxRecDepth 100000 in
theorem Unquote_walk (q s r : ByteArray) (w : World) (hr : r.size = 0)
    (cu : Calls Tryd.prog 33 #[.string q, .bool true] w fun e w' => e = .returned (.tuple #[.string s, .string r, .nilIface]) ∧ Below w.heap.size w w') :
    Calls Tryd.prog 28 #[.string q] w fun e w' => e = .returned (.tuple #[.string s, .nilIface]) ∧ Below w.heap.size w w' := by
  have f1 : decide (0 < (r.size : Int)) = false := decide_eq_false (by omega)
  have f2 : decide (0 < r.size) = false := decide_eq_false (by omega)
  clear hr
  go_enter Tryd.func28, Tryd.ntmps28
  go_wp2_with (first | (go_at_call 33; (with_reducible refine cu.mono ?_); rintro e w' ⟨rfl, hb⟩))
  go_ret2
  exact ⟨rfl, hb⟩

/-- letters that stand in quotation marks as they are -/
def PlainL (l : List UInt8) : Prop := ∀ b ∈ l, b ≠ 34 ∧ b ≠ 92 ∧ b ≠ 10 ∧ b.toNat < 128

theorem idx_no {c : UInt8} : ∀ {l : List UInt8}, (∀ b ∈ l, b ≠ c) → Lib.indexByte l c = -1
  | [], _ => rfl
  | b :: l, h => by
    unfold Lib.indexByte
    rw [idx_no (l := l) (fun x hx => h x (List.mem_cons_of_mem _ hx))]
    rw [if_neg (by simpa using h b (List.mem_cons_self))]
    rfl
theorem idx_at {c : UInt8} : ∀ {l r : List UInt8}, (∀ b ∈ l, b ≠ c) → Lib.indexByte (l ++ c :: r) c = l.length
  | [], r, _ => by simp [Lib.indexByte]
  | b :: l, r, h => by
    rw [List.cons_append]
    unfold Lib.indexByte
    rw [idx_at (l := l) (fun x hx => h x (List.mem_cons_of_mem _ hx))]
    rw [if_neg (by simpa using h b (List.mem_cons_self))]
    have : (((l.length : Nat) : Int) == -1) = false := beq_eq_false_iff_ne.mpr (by omega)
    rw [this]
    simp

theorem Unquote_any (q : ByteArray) (l : List UInt8) (w : World) (hq : q.data.toList = 34 :: (l ++ [34])) (hl : PlainL l) (hlen : l.length ≤ 1000)
    (hT : Lib.Utf8Tabs (Tryd.laysValid_ren.g 3) (Tryd.laysValid_ren.g 4) w) :
    Calls Tryd.prog 28 #[.string q] w fun e w' => e = .returned (.tuple #[.string ⟨l.toArray⟩, .nilIface]) ∧ Below w.heap.size w w' := by
  have hn : q.size = l.length + 2 := by rw [Lib.size_eq, hq]; simp
  have e1 : (q.extract 1 q.size).data.toList = l ++ [34] := by rw [Lib.extract_to_end, hq]; rfl
  have e2 : (q.extract 0 (l.length + 2)).data.toList = 34 :: (l ++ [34]) := by
    rw [Lib.extract_data, hq]
    simp only [List.drop_zero, Nat.sub_zero]
    exact List.take_of_length_le (by simp)
  have e3 : (q.extract 1 (l.length + 1)).data.toList = l := by
    rw [Lib.extract_data, hq]
    simp
  have e4 : ((q.extract 0 (l.length + 2)).extract 1 (l.length + 1)) = ⟨l.toArray⟩ := by
    apply WideShapes.bytes_inj
    rw [Lib.extract_data, e2]
    simp
  rw [← e4]
  have ci : ∀ W, Calls Tryd.prog 37 #[.string (q.extract 1 q.size), .int .u8 34] W fun e w' => e = .returned (.int .i64 (l.length : Int)) ∧ W = w' := fun W => by
    refine (index_any (q.extract 1 q.size) 34 W).mono ?_
    rintro e w' ⟨rfl, rfl⟩
    refine ⟨?_, rfl⟩
    rw [e1]
    have := idx_at (c := 34) (l := l) (r := []) (fun b hb => (hl b hb).1)
    exact congrArg (fun x => Ending.returned (.int .i64 x)) this
  have nob : ∀ c : UInt8, c ≠ 34 → (∀ b ∈ l, b ≠ c) → Lib.indexByte (34 :: (l ++ [34])) c = -1 := fun c hc h => idx_no (fun b hb => by
    rcases List.mem_cons.1 hb with rfl | hb
    · exact fun e => hc e.symm
    · rcases List.mem_append.1 hb with hb | hb
      · exact h b hb
      · rw [List.mem_singleton.1 hb]; exact fun e => hc e.symm)
  have c92 : ∀ W, Calls Tryd.prog 38 #[.string (q.extract 0 (l.length + 2)), .int .u8 92] W fun e w' => e = .returned (.bool false) ∧ W = w' := fun W => by
    refine (contains_any (q.extract 0 (l.length + 2)) 92 (-1) W ?_).mono ?_
    · rw [e2]; exact nob 92 (by decide) (fun b hb => (hl b hb).2.1)
    · rintro e w' ⟨rfl, rfl⟩; exact ⟨rfl, rfl⟩
  have c10 : ∀ W, Calls Tryd.prog 38 #[.string (q.extract 0 (l.length + 2)), .int .u8 10] W fun e w' => e = .returned (.bool false) ∧ W = w' := fun W => by
    refine (contains_any (q.extract 0 (l.length + 2)) 10 (-1) W ?_).mono ?_
    · rw [e2]; exact nob 10 (by decide) (fun b hb => (hl b hb).2.2.1)
    · rintro e w' ⟨rfl, rfl⟩; exact ⟨rfl, rfl⟩
  have cv : Calls Tryd.prog 39 #[.string (q.extract 1 (l.length + 1))] w fun e w' => e = .returned (.bool true) ∧ Below w.heap.size w w' := by
    have hsz : (q.extract 1 (l.length + 1)).size ≤ 9223372036854775807 := by rw [Lib.size_eq, e3]; omega
    have h0 : Calls Tryd.prog 39 #[.string (q.extract 1 (l.length + 1))] w _ := Go.Proofs.Any.utf8_ValidString Tryd.laysValid (q.extract 1 (l.length + 1)) w hsz hT
    refine h0.mono ?_
    rintro e w' ⟨rfl, hb⟩
    refine ⟨?_, hb⟩
    rw [e3, Lib.validD_ascii l.length l (fun b hb => (hl b (List.mem_of_mem_take hb)).2.2.2), List.drop_length]
    rfl
  exact Unquote_walk q _ (q.extract (l.length + 2) q.size) w (by rw [Lib.size_eq, Lib.extract_to_end, hq]; simp)
    (unquote_walk q l.length w (Lib.hid hn) hlen (fun h => by
      have hb : q.data.toList[0]? = some q[0] := Lib.data_getElem? q 0 h
      rw [hq] at hb
      simp at hb
      rw [← hb]; rfl) ci c92 c10 cv)
end Go.Proofs.YtikgnlgmidbclaaDoor.Plain
