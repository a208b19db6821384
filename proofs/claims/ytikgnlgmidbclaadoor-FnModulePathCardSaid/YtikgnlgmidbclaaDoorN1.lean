/- The walk of laws.FnModulePath: it returns true, and nothing in memory that was there has changed. Conditions: sizes that fit in memory, a style of bytes, the tables of bytes and utf8. -/
import Derived.Test.YtikgnlgmidbclaaDoorL4
namespace Go.Proofs.YtikgnlgmidbclaaDoor.Plain
set_option linter.unusedVariables false
set_option linter.unusedSimpArgs false
open Go.RowKit Go.Proofs.YtikgnlgmidbclaaDoor.PFnModulePath Go.Proofs.YtikgnlgmidbclaaDoorW.PrintWords Go.Proofs.YtikgnlgmidbclaaDoorW.PrintLast Go.Proofs.YtikgnlgmidbclaaDoorW.PrintMore

theorem loose_calls (l : List S29) (st : List Int) (p : ByteArray) (F : FileGood l) (hp : (rd_T29 l 0).f1 = [p]) (hpg : PathGood p) (hst : ∀ x ∈ st, 0 ≤ x ∧ x ≤ 255) :
    ∃ r : ByteArray, (r.size ≤ 16384 ∧ Head p.data.toList r.data.toList) ∧ ∀ (A0 : Option Addr) (c0 : Nat) (A1 : Option Addr) (c1 : Nat) (w : World), Kd.C k29 w A0 l.length l → l.length ≤ c0 → Kd.C (Kd.int .u8) w A1 st.length st → st.length ≤ c1 →
      Calls Tryd.prog 7 #[.slice A0 l.length c0, .slice A1 st.length c1] w fun e w' => e = .returned (.string r) ∧ Below w.heap.size w w' := by
  obtain ⟨r, hr, k, h⟩ := (loose_ev l st p F hp hpg hst).some_
  exact ⟨r, hr, fun A0 c0 A1 c1 w a b c d => spec_Loose.calls k A0 c0 l A1 c1 st r w a b c d h⟩
theorem text_calls (l : List S29) (p : ByteArray) (F : FileGood l) (hp : (rd_T29 l 0).f1 = [p]) :
    ∃ r : ByteArray, (r.size ≤ 5200 ∧ Head p.data.toList r.data.toList) ∧ ∀ (A0 : Option Addr) (c0 : Nat) (w : World), Kd.C k29 w A0 l.length l → l.length ≤ c0 →
      Calls Tryd.prog 8 #[.slice A0 l.length c0] w fun e w' => e = .returned (.string r) ∧ Below w.heap.size w w' := by
  obtain ⟨r, hr, k, h⟩ := (text_ev l p F hp).some_
  exact ⟨r, hr, fun A0 c0 w a b => spec_Text.calls k A0 c0 l r w a b h⟩

set_option maxHeartbeats 8000000 in
set_option maxRecDepth 100000 in
theorem law_walk (l : List S29) (A : Option Addr) (c : Nat) (st : List Int) (A' : Option Addr) (c' : Nat) (w : World) (hr : Kd.C k29 w A l.length l) (hc : l.length ≤ c) (hr' : Kd.C (Kd.int .u8) w A' st.length st) (hc' : st.length ≤ c')
    (hs : ∀ i : Nat, i < l.length → Sized (rd_T29 l i).f1) (hf : ∀ i : Nat, i < l.length → (rd_T29 l i).f1.length ≤ 140737488351232) (hl : l.length ≤ 140737488351232) (hst : ∀ x ∈ st, 0 ≤ x ∧ x ≤ 255)
    (htab : Lib.TabIs Tryd.prog w "bytes.asciiSpace" .u8 Lib.asciiSpaceTab) (hU : Lib.Utf8Tabs (Tryd.laysValid_ren.g 3) (Tryd.laysValid_ren.g 4) w) :
    Calls Tryd.prog 3 #[.slice A l.length c, .slice A' st.length c'] w fun e w' => e = .returned (.bool true) ∧ Below w.heap.size w w' := by
  obtain ⟨bf, _, kf, hfit⟩ := (fits1_ev l hl hf).some_
  have cf : Calls Tryd.prog 4 #[.slice A l.length c] w fun e w' => e = .returned (.bool bf) ∧ Below w.heap.size w w' := laws_zzFits1.calls kf A c l bf w hr hc hfit
  have HR := Aside0.mk hr
  have HC := Aside0.mk hc
  have HR' := Aside0.mk hr'
  have HC' := Aside0.mk hc'
  have HS := Aside0.mk hs
  have HL := Aside0.mk hl
  have HST := Aside0.mk hst
  have HT := Aside0.mk htab
  have HU := Aside0.mk hU
  clear hr hc hr' hc' hs hf hl hst htab hU hfit
  cases bf with
  | false =>
    go_enter Tryd.func3, Tryd.ntmps3
    go_wp2_with (first | (go_at_call 4; (with_reducible refine cf.mono ?_); rintro e w1 ⟨rfl, hb1⟩))
    go_ret
    exact ⟨rfl, hb1⟩
  | true =>
  by_cases hbig : 2147483647 < st.length
  · have g0 : decide (2147483647 < (st.length : Int)) = true := decide_eq_true (by omega)
    have g1 : decide (2147483647 < st.length) = true := decide_eq_true hbig
    clear hbig
    go_enter Tryd.func3, Tryd.ntmps3
    go_wp2_with (first | (go_at_call 4; (with_reducible refine cf.mono ?_); rintro e w1 ⟨rfl, hb1⟩))
    go_ret
    exact ⟨rfl, hb1⟩
  have g0 : decide (2147483647 < (st.length : Int)) = false := decide_eq_false (by omega)
  have g1 : decide (2147483647 < st.length) = false := decide_eq_false hbig
  clear hbig
  have ht30 : Aside0 (∃ b, decide (30 < (st.length : Int)) = b ∧ decide (30 < st.length) = b) := ⟨⟨decide (30 < st.length), by rw [decide_eq_decide]; omega, rfl⟩⟩
  obtain ⟨b30, g2, g3⟩ := ht30.out
  clear ht30
  go_enter Tryd.func3, Tryd.ntmps3
  go_wp2_with (first | (go_at_call 4; (with_reducible refine cf.mono ?_); rintro e w1 ⟨rfl, hb1⟩))
  go_at_call 5
  (with_reducible refine (file_walk l _ _ _ ?sr ?sc ?ss ?sl).mono ?_)
  case sr => exact Kd.C_below HR.out hb1
  case sc => exact HC.out
  case ss => exact HS.out
  case sl => exact HL.out
  rintro e w2 ⟨b, rfl, hg, hb2⟩
  have HB := Aside0.mk (below_step hb1 hb2)
  have HG := Aside0.mk hg
  clear hb1 hb2 hg cf
  cases b with
  | false =>
    go_wp2
    go_ret
    exact ⟨rfl, HB.out⟩
  | true =>
  cases b30 with
  | true =>
    go_wp2
    go_ret
    exact ⟨rfl, HB.out⟩
  | false =>
  have F := HG.out rfl
  obtain ⟨p, hp, hpg⟩ : ∃ p, (rd_T29 l 0).f1 = [p] ∧ PathGood p := by
    obtain ⟨f1, f2, f3, f4⟩ := F
    have h_ := (f4 0 f1).1
    unfold Fit at h_
    rw [show (((0 : Nat) : Int)) = 0 from rfl] at h_
    rcases h_ with h_ | h_ | h_ | h_ | h_
    · obtain ⟨_, _, p, h1_, h2_⟩ := h_; exact ⟨p, h1_, h2_⟩
    · omega
    · omega
    · omega
    · omega
  obtain ⟨r1, hr1, cl⟩ := loose_calls l st p F hp hpg HST.out
  obtain ⟨r2, hr2, ct⟩ := text_calls l p F hp
  have hpos : 0 < l.length := F.1
  obtain ⟨ad, A0, c0, eA, hx0, hx1, hx2, hl0, hi0⟩ := at_T29 HR.out 0 (by omega) (by omega)
  subst eA
  rw [show ((0 : Int)).toNat = 0 from rfl, Nat.zero_mul, Addr.add_zero'] at hx0 hx1 hx2
  rw [hp] at hi0
  obtain ⟨ad0, rfl, hp0⟩ := fields1 hi0
  replace hx1 := (HB.out.cell (World.block_lt_of_cell? w _ hx1)).trans hx1
  replace hp0 := (HB.out.cell (World.block_lt_of_cell? w _ hp0)).trans hp0
  clear hx0 hx2 hi0 hl0
  have q0 : (0 < (rd_T29 l 0).f1.length) = True := eq_true (by rw [hp]; simp)
  have q0i : (0 < ((rd_T29 l 0).f1.length : Int)) = True := eq_true (by rw [hp]; simp)
  have q1 : (0 < l.length) = True := eq_true hpos
  have q1i : (0 < (l.length : Int)) = True := eq_true (by omega)
  have M1 := Aside0.mk (mp_loose hpg hr1.2)
  have M2 : Aside0 (MP p 2 (((⟨#[47, 47, 32, 114, 101, 109, 97, 114, 107, 10]⟩ : ByteArray) ++ r2) ++ (⟨#[10, 102, 117, 116, 117, 114, 101, 32, 40, 32, 10]⟩ : ByteArray)).data.toList) := ⟨by
    have := mp_text hpg hr2.2 [10, 102, 117, 116, 117, 114, 101, 32, 40, 32, 10]
    rw [dappend, dappend, List.append_assoc]
    exact this⟩
  have M3 : Aside0 (MP ⟨#[]⟩ 1 (⟨#[103, 111, 32, 49, 46, 50, 49, 10]⟩ : ByteArray).data.toList) := ⟨mp_none⟩
  have Z1 : Aside0 (r1.size ≤ 16384) := ⟨hr1.1⟩
  have Z2 : Aside0 ((((⟨#[47, 47, 32, 114, 101, 109, 97, 114, 107, 10]⟩ : ByteArray) ++ r2) ++ (⟨#[10, 102, 117, 116, 117, 114, 101, 32, 40, 32, 10]⟩ : ByteArray)).size ≤ 16384) := ⟨by
    have e1 : (⟨#[47, 47, 32, 114, 101, 109, 97, 114, 107, 10]⟩ : ByteArray).size = 10 := rfl
    have e2 : (⟨#[10, 102, 117, 116, 117, 114, 101, 32, 40, 32, 10]⟩ : ByteArray).size = 11 := rfl
    have := hr2.1
    rw [ByteArray.size_append, ByteArray.size_append, e1, e2]; omega⟩
  have s1 : (9223372036854775807 < 10 + r2.size) = False := eq_false (by have := hr2.1; omega)
  have s2 : (9223372036854775807 < 10 + r2.size + 11) = False := eq_false (by have := hr2.1; omega)
  have CL := Aside0.mk cl
  have CT := Aside0.mk ct
  clear F hp hpg hr1 hr2 cl ct hpos HG
  go_wp2
  go_region_held3 (fun w' => w'.cell? ⟨ad.block, ad.off + 1, none⟩ = some (.slice (some ad0) (rd_T29 l 0).f1.length c0) ∧ w'.cell? ad0 = some (.string p) ∧ Aside0 (Below w.heap.size w w')) (first | exact ⟨hx1, hp0, ⟨below_drew1 HB.out⟩⟩ | (go_split_ands; refine ⟨pw_cell_below hbk (by assumption), pw_cell_below hbk (by assumption), ⟨below_step (Aside0.out (by assumption)) hbk⟩⟩) | (trace_state; fail)) (first | (go_at_call 7; (with_reducible refine (CL.out _ _ _ _ _ ?s1 ?s2 ?s3 ?s4).mono ?_); (case s1 => (try go_split_ands); exact Kd.C_below HR.out (Aside0.out (by assumption))); (case s2 => exact HC.out); (case s3 => (try go_split_ands); exact Kd.C_below HR'.out (Aside0.out (by assumption))); (case s4 => exact HC'.out); rintro e w' ⟨rfl, hbk⟩) | (go_at_call 8; (with_reducible refine (CT.out _ _ _ ?s1 ?s2).mono ?_); (case s1 => (try go_split_ands); exact Kd.C_below HR.out (Aside0.out (by assumption))); (case s2 => exact HC.out); rintro e w' ⟨rfl, hbk⟩) | (go_at_call 6; (first | ((with_reducible refine (impl_walk _ p 1 M1.out Z1.out _ ?tt ?tu).mono ?_); (case tt => (try go_split_ands); exact tab_below HT.out (Aside0.out (by assumption))); (case tu => (try go_split_ands); exact tabs_below HU.out (Aside0.out (by assumption)))) | ((with_reducible refine (impl_walk _ p 2 M2.out Z2.out _ ?tt ?tu).mono ?_); (case tt => (try go_split_ands); exact tab_below HT.out (Aside0.out (by assumption))); (case tu => (try go_split_ands); exact tabs_below HU.out (Aside0.out (by assumption)))) | ((with_reducible refine (impl_walk _ ⟨#[]⟩ 1 M3.out (by decide) _ ?tt ?tu).mono ?_); (case tt => (try go_split_ands); exact tab_below HT.out (Aside0.out (by assumption))); (case tu => (try go_split_ands); exact tabs_below HU.out (Aside0.out (by assumption))))); rintro e w' ⟨rfl, hbk⟩))
  all_goals
    go_split_ands
    go_wp2
    go_ret
    exact ⟨rfl, Aside0.out (by assumption)⟩
end Go.Proofs.YtikgnlgmidbclaaDoor.Plain
