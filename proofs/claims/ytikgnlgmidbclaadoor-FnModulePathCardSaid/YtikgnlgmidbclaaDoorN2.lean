/- The arguments of laws.FnModulePath, opened: a list of entries and a list of bytes, as the walk wants them. -/
import Derived.Test.YtikgnlgmidbclaaDoorN1
import Derived.Deep.Slices
import Derived.SliceStrings
import Derived.SizedLaws
import Derived.OpenShut
namespace Go.Proofs.YtikgnlgmidbclaaDoor.Plain
set_option linter.unusedVariables false
set_option linter.unusedSimpArgs false
open Go.ChangeShapes Go.WideShapes Go.RowKit Go.Proofs.YtikgnlgmidbclaaDoor.PFnModulePath Go.Proofs.YtikgnlgmidbclaaDoorW.PrintWords
theorem c3 : Tryd.prog.cellsOf 3 = 1 := by kernel_rfl
theorem c4 : Tryd.prog.cellsOf 4 = 1 := by kernel_rfl
theorem c5 : Tryd.prog.cellsOf 5 = 1 := by kernel_rfl
theorem c9 : Tryd.prog.cellsOf 9 = 1 := by kernel_rfl
theorem c27 : Tryd.prog.cellsOf 27 = 1 := by kernel_rfl
theorem c29 : Tryd.prog.cellsOf 29 = 3 := by kernel_rfl
theorem b5 : Tryd.prog.bytesOf 5 = 1 := by kernel_rfl
theorem b9 : Tryd.prog.bytesOf 9 = 16 := by kernel_rfl
theorem b29 : Tryd.prog.bytesOf 29 = 40 := by kernel_rfl
theorem mem_weightsAll {H : Type} {P : Program} {e : TypeId} {n : Nat} : ∀ {ds : List (DataW H)} {d : DataW H}, d ∈ ds → n ∈ d.weights P e → n ∈ DataW.weightsAll P e ds
  | d0 :: ds, d, hd, hn => by
    simp only [DataW.weightsAll, List.mem_append]
    rcases List.mem_cons.1 hd with rfl | h
    · exact Or.inl hn
    · exact Or.inr (mem_weightsAll h hn)
  | [], _, hd, _ => by simp at hd
section
variable {H : Type} {enc : TypeId × Value → H} {W : World} {base : Nat} {spare : Nat → Bool} {held : Bool}
/-- A []string, as its cell. -/
theorem open_strs {fuel : Nat} {v : Value} {y : DataW H × List MemPlace} (hf : DataW.trod enc Tryd.prog W base spare held fuel 27 [v] = some y) (hsz : ∀ n ∈ y.1.weights Tryd.prog 27, n ≤ 140737488351232) :
    ∃ A c ss, v = .slice A (ss : List ByteArray).length c ∧ ss.length ≤ c ∧ Kd.string.C W A ss.length ss ∧ Sized ss ∧ ss.length ≤ 140737488351232 := by
  rcases open_strings Tryd.underlying27 Tryd.underlying9 c9 hf with ⟨hcs, hx⟩ | ⟨a, len, cap, ss, hcs, _, hl, hm, hz, hx, hcell, _⟩
  · simp only [List.cons.injEq, and_true] at hcs
    subst hcs
    refine ⟨none, 0, [], rfl, Nat.le_refl _, ⟨rfl, by decide, fun h => absurd h (by decide)⟩, fun f hf => by simp at hf, by decide⟩
  · simp only [List.cons.injEq, and_true] at hcs
    subst hcs hx
    have hlen : len ≤ ss.length := by rw [hz]; split <;> omega
    have hl2 : (ss.take len).length = len := by simp; omega
    have hw : ∀ n, n ∈ DataW.weights Tryd.prog 27 (DataW.slice (strs (H := H) (ss.take len)) (strs (ss.drop len))) ↔ n = ((strs (H := H) (ss.take len)).length + (strs (H := H) (ss.drop len)).length) * 16 ∨ n ∈ DataW.weightsAll Tryd.prog 9 (strs (H := H) (ss.take len)) ∨ n ∈ DataW.weightsAll Tryd.prog 9 (strs (H := H) (ss.drop len)) := by
      intro n
      simp only [DataW.weights, Tryd.underlying27, b9, List.mem_cons, List.mem_append]
    have hle : len ≤ 140737488351232 := by
      have h := hsz _ ((hw _).2 (Or.inl rfl))
      have : (strs (H := H) (ss.take len)).length = len := by simp only [strs, List.length_map]; exact hl2
      rw [this] at h
      omega
    refine ⟨some a, cap, ss.take len, by rw [hl2], by rw [hl2]; exact hl, ?_, fun f hf => ?_, by rw [hl2]; exact hle⟩
    · refine Kd.C_of_reads (enc := Value.string) (d := ByteArray.empty) (h1 := fun _ => rfl) ⟨rfl, by rw [hl2]; omega, fun _ => ⟨a, rfl, fun j hj => ?_⟩⟩
      rw [hl2] at hj
      rw [hcell j (by omega)]
      simp [List.getD, List.getElem?_take_of_lt hj]
    · have h1 : (DataW.lit (H := H) (.string f.data.toList)) ∈ strs (H := H) (ss.take len) := List.mem_map_of_mem hf
      have h2 := hsz _ ((hw _).2 (Or.inr (Or.inl (mem_weightsAll h1 (n := f.data.toList.length) (by simp [DataW.weights])))))
      have h3 : f.data.toList.length = f.size := by rw [Array.length_toList]; rfl
      omega
/-- A []Entry, as the walk wants it. -/
theorem open_entries {fuel : Nat} {A : Option Addr} {len cap : Nat} {x : DataW H × List MemPlace} (hf : DataW.trod enc Tryd.prog W base spare held fuel 22 [.slice A len cap] = some x) (hsz : ∀ n ∈ x.1.weights Tryd.prog 22, n ≤ 140737488351232) :
    ∃ l : List S29, len = l.length ∧ Kd.C k29 W A l.length l ∧ l.length ≤ cap ∧ (∀ i : Nat, i < l.length → Sized (rd_T29 l i).f1) ∧ (∀ i : Nat, i < l.length → (rd_T29 l i).f1.length ≤ 140737488351232) ∧ l.length ≤ 140737488351232 := by
  rcases Go.Deep.open_slice Tryd.underlying22 hf with ⟨hcs, hx⟩ | ⟨a, len', cap', m, n, D, Pl, hcs, _, hl, hm, hmm, hx, hi⟩
  · simp only [List.cons.injEq, and_true, Value.slice.injEq] at hcs
    obtain ⟨rfl, rfl, rfl⟩ := hcs
    exact ⟨[], rfl, ⟨rfl, by decide, fun h => absurd h (by decide)⟩, Nat.le_refl _, fun i h => absurd h (Nat.not_lt_zero _), fun i h => absurd h (Nat.not_lt_zero _), by decide⟩
  · simp only [List.cons.injEq, and_true, Value.slice.injEq] at hcs
    obtain ⟨rfl, rfl, rfl⟩ := hcs
    subst hx
    have hlm : len ≤ m := by rw [hmm]; split <;> omega
    have hw : ∀ n, n ∈ DataW.weights Tryd.prog 22 (DataW.slice ((List.range len).map D) ((List.range (m - len)).map fun j => D (len + j))) ↔ n = (((List.range len).map D).length + ((List.range (m - len)).map fun j => D (len + j)).length) * 40 ∨ n ∈ DataW.weightsAll Tryd.prog 29 ((List.range len).map D) ∨ n ∈ DataW.weightsAll Tryd.prog 29 ((List.range (m - len)).map fun j => D (len + j)) := by
      intro n
      simp only [DataW.weights, Tryd.underlying22, b29, List.mem_cons, List.mem_append]
    have hle : len ≤ 140737488351232 := by
      have h := hsz _ ((hw _).2 (Or.inl rfl))
      simp only [List.length_map, List.length_range] at h
      omega
    have each : ∀ i, i < len → ∃ s : S29, (∃ c, c.length = 3 ∧ k29.K W s c ∧ ∀ j u, c[j]? = some u → W.cell? (a.add (i * 3 + j)) = some u) ∧ Sized s.f1 ∧ s.f1.length ≤ 140737488351232 := by
      intro i hil
      obtain ⟨cs', hc, ht⟩ := hi i (by omega)
      rw [c29] at hc
      obtain ⟨_, hcl, hat⟩ := World.cells?_some hc
      obtain ⟨ys, n', _, hy, _, hyl, hfld⟩ := DataW.trod_struct Tryd.underlying29 ht
      match cs', hcl with
      | [v0, v1, v2], _ =>
        match ys, hyl with
        | [y0, y1, y2], _ =>
          have g0 : DataW.trod enc Tryd.prog W base spare held n' 3 (([v0, v1, v2].drop 0).take (Tryd.prog.cellsOf 3)) = some y0 := hfld 0 _ rfl
          have g1 : DataW.trod enc Tryd.prog W base spare held n' 27 (([v0, v1, v2].drop 1).take (Tryd.prog.cellsOf 27)) = some y1 := hfld 1 _ rfl
          have g2 : DataW.trod enc Tryd.prog W base spare held n' 4 (([v0, v1, v2].drop 2).take (Tryd.prog.cellsOf 4)) = some y2 := hfld 2 _ rfl
          rw [c3] at g0
          rw [c27] at g1
          rw [c4] at g2
          obtain ⟨z, h0, _, _⟩ := DataW.trod_int Tryd.underlying3 g0
          obtain ⟨b, h2, _⟩ := DataW.trod_bool Tryd.underlying4 g2
          have e0 : v0 = .int .i64 z := (List.cons.inj (show [v0] = [Value.int .i64 z] from h0)).1
          have e2 : v2 = .bool b := (List.cons.inj (show [v2] = [Value.bool b] from h2)).1
          subst e0 e2
          have hD : D i = .agg [y0.1, y1.1, y2.1] := (Prod.mk.inj hy).1
          obtain ⟨A1, cc, ss, hv, hl1, hC, hS, hSl⟩ := open_strs g1 (fun k hk => hsz k ((hw k).2 (Or.inr (Or.inl (mem_weightsAll (d := D i) (List.mem_map_of_mem (List.mem_range.2 hil)) (by
            rw [hD]
            simp only [DataW.weights, Tryd.underlying29]
            exact DataW.weights_mem_each (j := 1) (t := 27) rfl rfl k hk))))))
          subst hv
          refine ⟨⟨z, ss, b⟩, ⟨[.int .i64 z, .slice A1 ss.length cc, .bool b], rfl, k29_mk W ⟨z, ss, b⟩ hl1 hC, fun j u hu => ?_⟩, hS, hSl⟩
          have hj : j < 3 := (List.getElem?_eq_some_iff.1 hu).1
          have := hat j hj
          rw [Go.Deep.add_add] at this
          rw [this]
          exact hu
    haveI : Inhabited S29 := ⟨z29⟩
    obtain ⟨s, hs⟩ := Go.Deep.choose_lt each
    have hlen : ((List.range len).map s).length = len := by simp
    have hrd : ∀ i : Nat, i < len → rd_T29 ((List.range len).map s) i = s i := fun i hi => by
      simp [rd_T29, List.getD, hi]
    refine ⟨(List.range len).map s, hlen.symm, ⟨rfl, by rw [hlen]; omega, fun _ => ⟨a, rfl, fun j p hj => ?_⟩⟩, by rw [hlen]; exact hl, fun i hi => ?_, fun i hi => ?_, by rw [hlen]; exact hle⟩
    · have hjl : j < len := by
        have := (List.getElem?_eq_some_iff.1 hj).1
        rwa [hlen] at this
      have hp : s j = p := by simpa [hjl] using hj
      subst hp
      exact (hs j hjl).1
    · rw [hlen] at hi
      rw [hrd i hi]
      exact (hs i hi).2.1
    · rw [hlen] at hi
      rw [hrd i hi]
      exact (hs i hi).2.2
/-- A []byte, as the walk wants it. -/
theorem open_style {fuel : Nat} {A : Option Addr} {len cap : Nat} {x : DataW H × List MemPlace} (hf : DataW.trod enc Tryd.prog W base spare held fuel 23 [.slice A len cap] = some x) :
    ∃ st : List Int, len = st.length ∧ Kd.C (Kd.int .u8) W A st.length st ∧ st.length ≤ cap ∧ ∀ x ∈ st, 0 ≤ x ∧ x ≤ 255 := by
  rcases open_ints Tryd.underlying23 Tryd.underlying5 c5 hf with ⟨hcs, hx⟩ | ⟨a, len', cap', zs, hcs, _, hl, hm, hz, hx, hcell, hwf⟩
  · simp only [List.cons.injEq, and_true, Value.slice.injEq] at hcs
    obtain ⟨rfl, rfl, rfl⟩ := hcs
    exact ⟨[], rfl, ⟨rfl, by decide, fun h => absurd h (by decide)⟩, Nat.le_refl _, fun x hx => by simp at hx⟩
  · simp only [List.cons.injEq, and_true, Value.slice.injEq] at hcs
    obtain ⟨rfl, rfl, rfl⟩ := hcs
    have hlen : len ≤ zs.length := by rw [hz]; split <;> omega
    have hl2 : (zs.take len).length = len := by simp; omega
    refine ⟨zs.take len, hl2.symm, ?_, by rw [hl2]; exact hl, fun x hx => ?_⟩
    · refine Kd.C_of_reads (enc := Value.int .u8) (d := (0 : Int)) (h1 := fun _ => rfl) ⟨rfl, by rw [hl2]; unfold maxLen at hm; omega, fun _ => ⟨a, rfl, fun j hj => ?_⟩⟩
      rw [hl2] at hj
      rw [hcell j (by omega)]
      simp [List.getD, List.getElem?_take_of_lt hj]
    · have h := hwf x (List.mem_of_mem_take hx)

      exact bounds_u8 h
end
end Go.Proofs.YtikgnlgmidbclaaDoor.Plain
