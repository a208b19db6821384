/- Plain laws that join: a text that begins with the module's line is one of whose lines MP speaks; laws.zzFits1 answers. Conditions: PathGood; lengths that fit in memory. -/
import Derived.Test.YtikgnlgmidbclaaDoorL3
import Derived.Test.YtikgnlgmidbclaaDoorM5
namespace Go.Proofs.YtikgnlgmidbclaaDoor.Plain
set_option linter.unusedVariables false
set_option linter.unusedSimpArgs false
open Go.RowKit Go.Proofs.YtikgnlgmidbclaaDoor.PFnModulePath Go.Proofs.YtikgnlgmidbclaaDoorW.PrintWords

theorem noslash_mid {A B C : List UInt8} (hA : (47 : UInt8) ∉ A) (hC : (47 : UInt8) ∉ C) (hB : NoSlash B) : NoSlash (A ++ B ++ C) := by
  have mid : ∀ j, (A ++ B ++ C)[j]? = some 47 → A.length ≤ j ∧ j < A.length + B.length ∧ B[j - A.length]? = some 47 := by
    intro j h
    by_cases h1 : j < A.length
    · rw [List.append_assoc, List.getElem?_append_left h1] at h
      exact absurd (List.mem_of_getElem? h) hA
    · by_cases h2 : j < A.length + B.length
      · rw [List.append_assoc, List.getElem?_append_right (by omega), List.getElem?_append_left (by omega)] at h
        exact ⟨by omega, h2, h⟩
      · rw [List.getElem?_append_right (by simp; omega)] at h
        exact absurd (List.mem_of_getElem? h) hC
  intro j hj ⟨h1, h2⟩
  obtain ⟨a1, a2, a3⟩ := mid j h1
  obtain ⟨b1, b2, b3⟩ := mid (j + 1) h2
  exact hB (j - A.length) (by omega) ⟨a3, by rw [show j - A.length + 1 = j + 1 - A.length from by omega]; exact b3⟩

theorem pathByte {p : ByteArray} (h : PathGood p) {b : UInt8} (hb : b ∈ p.data.toList) : pc (b.toNat : Int) := by
  obtain ⟨i, hi, rfl⟩ := List.getElem_of_mem hb
  have hs : i < p.size := by rw [Lib.size_eq]; exact hi
  have := h.2.2.1 i hs
  rw [bt_nat p i hs] at this
  exact this
theorem pathFacts {p : ByteArray} (h : PathGood p) {b : UInt8} (hb : b ∈ p.data.toList) : b ≠ 34 ∧ b ≠ 92 ∧ b ≠ 10 ∧ b ≠ 96 ∧ b.toNat < 128 ∧ Lib.isSp b = false := by
  have k := pathByte h hb
  unfold pc alnum at k
  have e : ∀ c : UInt8, c.toNat ≠ b.toNat → b ≠ c := fun c hc hbc => hc (by rw [hbc])
  refine ⟨e 34 ?_, e 92 ?_, e 10 ?_, e 96 ?_, by omega, ?_⟩
  · show 34 ≠ _; omega
  · show 92 ≠ _; omega
  · show 10 ≠ _; omega
  · show 96 ≠ _; omega
  · unfold Lib.isSp
    have n9 : b ≠ 9 := e 9 (by show 9 ≠ _; omega)
    have n10 : b ≠ 10 := e 10 (by show 10 ≠ _; omega)
    have n11 : b ≠ 11 := e 11 (by show 11 ≠ _; omega)
    have n12 : b ≠ 12 := e 12 (by show 12 ≠ _; omega)
    have n13 : b ≠ 13 := e 13 (by show 13 ≠ _; omega)
    have n32 : b ≠ 32 := e 32 (by show 32 ≠ _; omega)
    simp [n9, n10, n11, n12, n13, n32]
theorem pathSlash {p : ByteArray} (h : PathGood p) : NoSlash p.data.toList := by
  intro j hj ⟨h1, h2⟩
  have hs : p.data.toList.length = p.size := (Lib.size_eq p).symm
  have k := h.2.2.2 j (by omega)
  rw [bt_nat p j (by omega), bt_nat p (j + 1) (by omega)] at k
  rw [Lib.data_getElem? p j (by omega)] at h1
  rw [Lib.data_getElem? p (j + 1) (by omega)] at h2
  injection h1 with h1
  injection h2 with h2
  exact k ⟨by rw [h1]; rfl, by rw [h2]; rfl⟩

theorem gap_sp {b : UInt8} (h : b = 32 ∨ b = 9) : Lib.isSp b = true ∧ b ≠ 10 ∧ b ≠ 47 ∧ b.toNat < 128 := by
  rcases h with rfl | rfl <;> exact ⟨rfl, by decide, by decide, by decide⟩

theorem head_hit {p : ByteArray} (hp : PathGood p) {D : List UInt8} (h : Head p.data.toList D) : ∃ L r, D = L ++ 10 :: r ∧ Hit L p := by
  obtain ⟨g1, g2, g3, q, r, rfl, h1, h2, h3⟩ := h
  have hne : p.data.toList ≠ [] := fun e => by
    have := hp.2.1
    rw [Lib.size_eq, e] at this
    simp at this
  have hfst : ∀ x, p.data.toList[0]? = some x → x ∈ p.data.toList := fun x hx => List.mem_of_getElem? hx
  have hq : ∀ b ∈ wrapq q p.data.toList, b ≠ 10 ∧ b.toNat < 128 := by
    intro b hb
    unfold wrapq at hb
    split at hb
    · rcases List.mem_cons.1 hb with rfl | hb
      · exact ⟨by decide, by decide⟩
      · rcases List.mem_append.1 hb with hb | hb
        · exact ⟨(pathFacts hp hb).2.2.1, (pathFacts hp hb).2.2.2.2.1⟩
        · rw [List.mem_singleton.1 hb]; exact ⟨by decide, by decide⟩
    · exact ⟨(pathFacts hp hb).2.2.1, (pathFacts hp hb).2.2.2.2.1⟩
  have hm : ∀ b ∈ modL, b ≠ 10 ∧ b ≠ 47 ∧ b.toNat < 128 := by decide
  have all : ∀ b ∈ g1 ++ (modL ++ g2 ++ wrapq q p.data.toList) ++ g3, b ≠ 10 ∧ b.toNat < 128 := by
    intro b hb
    simp only [List.mem_append] at hb
    rcases hb with (hb | ((hb | hb) | hb)) | hb
    · exact ⟨(gap_sp (h1 b hb)).2.1, (gap_sp (h1 b hb)).2.2.2⟩
    · exact ⟨(hm b hb).1, (hm b hb).2.2⟩
    · exact ⟨(gap_sp (h2.2 b hb)).2.1, (gap_sp (h2.2 b hb)).2.2.2⟩
    · exact hq b hb
    · exact ⟨(gap_sp (h3 b hb)).2.1, (gap_sp (h3 b hb)).2.2.2⟩
  have n1 : (47 : UInt8) ∉ g1 := fun hb => (gap_sp (h1 _ hb)).2.2.1 rfl
  have n2 : (47 : UInt8) ∉ g2 := fun hb => (gap_sp (h2.2 _ hb)).2.2.1 rfl
  have n3 : (47 : UInt8) ∉ g3 := fun hb => (gap_sp (h3 _ hb)).2.2.1 rfl
  have nm : (47 : UInt8) ∉ modL := by decide
  refine ⟨g1 ++ (modL ++ g2 ++ wrapq q p.data.toList) ++ g3, r, by simp, g1, g2, wrapq q p.data.toList, g3, rfl, fun b hb => (gap_sp (h1 b hb)).1, fun b hb => (gap_sp (h2.2 b hb)).1, h2.1, fun b hb => (gap_sp (h3 b hb)).1, ?_, fun b hb => (all b hb).2, fun hb => (all 10 hb).1 rfl, ?_, ?_⟩
  · cases q with
    | false =>
      show Tight p.data.toList
      exact ⟨hne, fun x hx => (pathFacts hp (List.mem_of_getElem? hx)).2.2.2.2.2, fun x hx => (pathFacts hp (List.mem_of_getElem? hx)).2.2.2.2.2⟩
    | true =>
      show Tight (34 :: (p.data.toList ++ [34]))
      refine ⟨by simp, fun x hx => ?_, fun x hx => ?_⟩
      · simp at hx; rw [← hx]; rfl
      · simp at hx; rw [← hx]; rfl
  · cases q with
    | false =>
      have := noslash_mid (A := g1 ++ modL ++ g2) (B := p.data.toList) (C := g3) (by simp [n1, n2, nm]) n3 (pathSlash hp)
      show NoSlash (g1 ++ (modL ++ g2 ++ p.data.toList) ++ g3)
      simpa using this
    | true =>
      have := noslash_mid (A := g1 ++ modL ++ g2 ++ [34]) (B := p.data.toList) (C := [34] ++ g3) (by simp [n1, n2, nm]) (by simp [n3]) (pathSlash hp)
      show NoSlash (g1 ++ (modL ++ g2 ++ (34 :: (p.data.toList ++ [34]))) ++ g3)
      simpa using this
  · cases q with
    | false =>
      refine .inl ⟨rfl, fun x hx => ?_⟩
      have k := pathFacts hp (List.mem_of_getElem? (show p.data.toList[0]? = some x from hx))
      exact ⟨k.1, k.2.2.2.1⟩
    | true =>
      exact .inr ⟨p.data.toList, rfl, fun b hb => ⟨(pathFacts hp hb).1, (pathFacts hp hb).2.1, (pathFacts hp hb).2.2.1, (pathFacts hp hb).2.2.2.2.1⟩, by rw [← Lib.size_eq]; have := hp.1; omega, rfl⟩

theorem mp_loose {p : ByteArray} (hp : PathGood p) {D : List UInt8} (h : Head p.data.toList D) : MP p 1 D := .inr (.inr (head_hit hp h))
theorem mp_text {p : ByteArray} (hp : PathGood p) {D : List UInt8} (h : Head p.data.toList D) (E : List UInt8) : MP p 2 ([47, 47, 32, 114, 101, 109, 97, 114, 107, 10] ++ (D ++ E)) :=
  .inl ⟨[32, 114, 101, 109, 97, 114, 107], D ++ E, rfl, by decide, mp_loose hp (h.append E)⟩
theorem mp_none : MP ⟨#[]⟩ 1 [103, 111, 32, 49, 46, 50, 49, 10] := by
  refine .inr (.inl ⟨[103, 111, 32, 49, 46, 50, 49], [], rfl, by decide, ?_, by unfold Ascii; decide, ⟨by decide, fun x hx => ?_, fun x hx => ?_⟩, by decide, rfl, rfl⟩)
  · have := noslash_mid (A := [103, 111, 32, 49, 46, 50, 49]) (B := []) (C := []) (by decide) (by decide) (fun j hj => by simp at hj)
    simpa using this
  · simp at hx; rw [← hx]; rfl
  · simp at hx; rw [← hx]; rfl

theorem fits3_ev (fs : List ByteArray) (hn : fs.length ≤ 140737488351232) : EvP (fun k => laws_zzFits3.f k fs) (fun _ => True) := by
  have go : ∀ (d i : Nat), i ≤ fs.length → fs.length - i = d → EvP (fun k => laws_zzFits3.l0 k fs (fs.length : Int) (i : Int)) (fun _ => True) := by
    intro d
    induction d with
    | zero =>
      intro i hi hd
      refine EvP.step (fun k => by rw [laws_zzFits3.l0]) ?_
      exact EvP.neg (by omega) (EvP.now trivial)
    | succ d ih =>
      intro i hi hd
      have ew : wrap64 ((i : Int) + 1) = ((i + 1 : Nat) : Int) := by unfold wrap64; omega
      refine EvP.step (fun k => by rw [laws_zzFits3.l0]) ?_
      rw [ew]
      refine EvP.pos (by omega) (EvP.pos (by omega) (EvP.pos (by omega) ?_))
      exact EvP.ite (fun _ => EvP.now trivial) (fun _ => ih (i + 1) (by omega) (by omega))
  unfold laws_zzFits3.f
  exact EvP.ite (fun _ => EvP.now trivial) (fun _ => go fs.length 0 (by omega) (by omega))
theorem fits1_ev (l : List S29) (hn : l.length ≤ 140737488351232) (hf : ∀ i : Nat, i < l.length → (rd_T29 l i).f1.length ≤ 140737488351232) : EvP (fun k => laws_zzFits1.f k l) (fun _ => True) := by
  have go : ∀ (d i : Nat), i ≤ l.length → l.length - i = d → EvP (fun k => laws_zzFits1.l0 k l (l.length : Int) (i : Int)) (fun _ => True) := by
    intro d
    induction d with
    | zero =>
      intro i hi hd
      refine EvP.step (fun k => by rw [laws_zzFits1.l0]) ?_
      exact EvP.neg (by omega) (EvP.now trivial)
    | succ d ih =>
      intro i hi hd
      have ew : wrap64 ((i : Int) + 1) = ((i + 1 : Nat) : Int) := by unfold wrap64; omega
      refine EvP.step (fun k => by rw [laws_zzFits1.l0]) ?_
      rw [ew]
      refine EvP.pos (by omega) (EvP.pos (by omega) (EvP.pos (by omega) ?_))
      refine EvP.bind (Q := fun _ => True) ?_ (fun b _ => EvP.ite (fun _ => ih (i + 1) (by omega) (by omega)) (fun _ => EvP.now trivial))
      unfold laws_zzFits2.f
      exact EvP.bind (fits3_ev _ (hf i (by omega))) (fun b _ => EvP.ite (fun _ => EvP.now trivial) (fun _ => EvP.now trivial))
  unfold laws_zzFits1.f
  exact EvP.ite (fun _ => EvP.now trivial) (fun _ => go l.length 0 (by omega) (by omega))
end Go.Proofs.YtikgnlgmidbclaaDoor.Plain
