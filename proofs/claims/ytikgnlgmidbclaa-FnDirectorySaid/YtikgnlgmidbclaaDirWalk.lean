/- The walk of 'laws.FnDirectory': at every string of at most 2^47 - 4096 bytes the call returns true and nothing in memory has changed. No other condition. -/
import Derived.Test.YtikgnlgmidbclaaPFnDirectoryx0
import Derived.Test.YtikgnlgmidbclaaPFnDirectoryx1
import Derived.Test.YtikgnlgmidbclaaDirPlain
namespace Go.Proofs.Ytikgnlgmidbclaa.Dir
open Go.RowKit Go.Proofs.Ytikgnlgmidbclaa.PFnDirectory Go.Proofs.YtikgnlgmidbclaaW.PrintWords Go.Proofs.YtikgnlgmidbclaaW.PrintLast Go.Proofs.YtikgnlgmidbclaaW.PrintMore
set_option linter.unusedVariables false
set_option linter.unusedSimpArgs false

theorem wrap_small {x : Int} (h0 : 0 ≤ x) (h : x ≤ 30) : wrap64 (x + 1) = x + 1 := by
  unfold wrap64; omega

set_option maxHeartbeats 4000000 in
set_option maxRecDepth 100000 in
theorem fn_any (a0 : ByteArray) (w : World) : Calls Try.prog 3 #[.string a0] w fun e w' => e = .returned (.bool true) ∧ Drawn0 w w' := by
  by_cases c2 : (a0.size : Int) > 2147483647
  · have c2b0 : decide (2147483647 < (a0.size : Int)) = true := decide_eq_true c2
    have c2b1 : decide (2147483647 < a0.size) = true := decide_eq_true (by omega)
    clear c2
    go_enter Try.func3, Try.ntmps3
    go_wp2
    go_ret
    exact ⟨rfl, by repeat (first | exact Drawn0.refl _ | apply Drawn0.step)⟩
  have c2b0 : decide (2147483647 < (a0.size : Int)) = false := decide_eq_false c2
  have c2b1 : decide (2147483647 < a0.size) = false := decide_eq_false (by omega)
  clear c2
  by_cases c3 : (a0.size : Int) > 30
  · have c3b0 : decide (30 < (a0.size : Int)) = true := decide_eq_true c3
    have c3b1 : decide (30 < a0.size) = true := decide_eq_true (by omega)
    clear c3
    go_enter Try.func3, Try.ntmps3
    go_wp2
    go_ret
    exact ⟨rfl, by repeat (first | exact Drawn0.refl _ | apply Drawn0.step)⟩
  have c3b0 : decide (30 < (a0.size : Int)) = false := decide_eq_false c3
  have c3b1 : decide (30 < a0.size) = false := decide_eq_false (by omega)
  have hsz : Aside0 (a0.size ≤ 30) := ⟨by omega⟩
  clear c3
  have R0 : Aside0 ((0 : Int) ≤ 0 ∧ (0 : Int) ≤ a0.size) := ⟨by omega⟩
  have A0 : Aside0 (∀ j : Nat, (j : Int) < 0 → okb (bt a0 j)) := ⟨fun j h => by omega⟩
  go_enter Try.func3, Try.ntmps3
  go_wp2
  go_loopg [3] 100 (fun kq v3 w' => ∃ i : Int, v3 = .int .i64 i ∧ Aside0 (0 ≤ i ∧ i ≤ a0.size) ∧ Aside0 (kq = 100 - i.toNat) ∧ Aside0 (∀ j : Nat, (j : Int) < i → okb (bt a0 j)) ∧ Drawn0 w w')
  case atStart => exact ⟨0, rfl, R0, ⟨rfl⟩, A0, by repeat (first | exact Drawn0.refl _ | apply Drawn0.step)⟩
  case round =>
    clear R0 A0 c2b0 c2b1 c3b0 c3b1
    obtain ⟨i, rfl, Hi, Hk, Hok, ⟨m1, rfl⟩⟩ := hrel
    by_cases c4 : i < (a0.size : Int)
    · have c4b0 : decide (i < (a0.size : Int)) = true := decide_eq_true c4
      have p6 : (0 ≤ i) = True := eq_true Hi.out.1
      have q6 : (i < (a0.size : Int)) = True := eq_true (by omega)
      have hx6 := bt_at a0 i
      have W1 : Aside0 (wrap64 (i + 1) = i + 1) := ⟨wrap_small Hi.out.1 (by have := Hi.out; have := hsz.out; omega)⟩
      have Hlt : Aside0 (i < (a0.size : Int)) := ⟨c4⟩
      clear c4
      by_cases k : okb (bt a0 i)
      · have Hok' : Aside0 (∀ j : Nat, (j : Int) < wrap64 (i + 1) → okb (bt a0 j)) := ⟨fun j h => by
          rw [W1.out] at h
          by_cases e : (j : Int) = i
          · rw [e]; exact k
          · exact Hok.out j (by omega)⟩
        have K := Aside0.mk k
        clear k
        by_cases c7 : (bt a0 i) = 46
        · have c7b0 : ((bt a0 i) == 46) = true := beq_iff_eq.mpr c7
          have c7b1 : ((bt a0 i) != 46) = false := bne_eq_false_iff_eq.mpr c7
          clear c7
          go_wp2
          go_roundg (100 - (i + 1).toNat)
          case measure => have := Hk.out; have := Hlt.out; have := hsz.out; have := Hi.out; omega
          case rel => exact ⟨wrap64 (i + 1), rfl, ⟨by rw [W1.out]; have := Hi.out; have := Hlt.out; omega⟩, ⟨by rw [W1.out]⟩, Hok', by repeat (first | exact Drawn0.refl _ | apply Drawn0.step)⟩
        have c7b0 : ((bt a0 i) == 46) = false := beq_eq_false_iff_ne.mpr c7
        have c7b1 : ((bt a0 i) != 46) = true := bne_iff_ne.mpr c7
        by_cases c9 : (bt a0 i) = 47
        · have c9b0 : ((bt a0 i) == 47) = true := beq_iff_eq.mpr c9
          have c9b1 : ((bt a0 i) != 47) = false := bne_eq_false_iff_eq.mpr c9
          clear c9
          go_wp2
          go_roundg (100 - (i + 1).toNat)
          case measure => have := Hk.out; have := Hlt.out; have := hsz.out; have := Hi.out; omega
          case rel => exact ⟨wrap64 (i + 1), rfl, ⟨by rw [W1.out]; have := Hi.out; have := Hlt.out; omega⟩, ⟨by rw [W1.out]⟩, Hok', by repeat (first | exact Drawn0.refl _ | apply Drawn0.step)⟩
        have c9b0 : ((bt a0 i) == 47) = false := beq_eq_false_iff_ne.mpr c9
        have c9b1 : ((bt a0 i) != 47) = true := bne_iff_ne.mpr c9
        have c11b0 : decide ((bt a0 i) < 97) = false := decide_eq_false (by have := K.out; unfold okb at this; omega)
        have c13b0 : decide (122 < (bt a0 i)) = false := decide_eq_false (by have := K.out; unfold okb at this; omega)
        go_wp2
        go_roundg (100 - (i + 1).toNat)
        case measure => have := Hk.out; have := Hlt.out; have := hsz.out; have := Hi.out; omega
        case rel => exact ⟨wrap64 (i + 1), rfl, ⟨by rw [W1.out]; have := Hi.out; have := Hlt.out; omega⟩, ⟨by rw [W1.out]⟩, Hok', by repeat (first | exact Drawn0.refl _ | apply Drawn0.step)⟩
      · have c7b0 : ((bt a0 i) == 46) = false := beq_eq_false_iff_ne.mpr (fun e => k (.inl e))
        have c7b1 : ((bt a0 i) != 46) = true := bne_iff_ne.mpr (fun e => k (.inl e))
        have c9b0 : ((bt a0 i) == 47) = false := beq_eq_false_iff_ne.mpr (fun e => k (.inr (.inl e)))
        have c9b1 : ((bt a0 i) != 47) = true := bne_iff_ne.mpr (fun e => k (.inr (.inl e)))
        by_cases c11 : (bt a0 i) < 97
        · have c11b0 : decide ((bt a0 i) < 97) = true := decide_eq_true c11
          clear c11 k
          go_wp2
          go_ret
          exact ⟨rfl, by repeat (first | exact Drawn0.refl _ | apply Drawn0.step)⟩
        have c11b0 : decide ((bt a0 i) < 97) = false := decide_eq_false c11
        have c13b0 : decide (122 < (bt a0 i)) = true := decide_eq_true (by unfold okb at k; omega)
        clear c11 k
        go_wp2
        go_ret
        exact ⟨rfl, by repeat (first | exact Drawn0.refl _ | apply Drawn0.step)⟩
    have c4b0 : decide (i < (a0.size : Int)) = false := decide_eq_false (by omega)
    have HOK : Aside0 (∀ j : Nat, j < a0.size → okb (bt a0 j)) := ⟨fun j h => Hok.out j (by omega)⟩
    have R0 : Aside0 ((0 : Int) ≤ 0 ∧ (0 : Int) ≤ a0.size) := ⟨by omega⟩
    have A0 : Aside0 (∀ j : Nat, (j : Int) < 0 → bt a0 j ≠ 47) := ⟨fun j h => by omega⟩
    have D3 := Aside0.mk dir_dot_a
    clear c4 Hok Hi Hk
    go_wp2
    go_loopg [4] 100 (fun kq v4 w' => ∃ i : Int, v4 = .int .i64 i ∧ Aside0 (0 ≤ i ∧ i ≤ a0.size) ∧ Aside0 (kq = 100 - i.toNat) ∧ Aside0 (∀ j : Nat, (j : Int) < i → bt a0 j ≠ 47) ∧ Drawn0 w w')
    case atStart => exact ⟨0, rfl, R0, ⟨rfl⟩, A0, by repeat (first | exact Drawn0.refl _ | apply Drawn0.step)⟩
    case round =>
      clear R0 A0 c4b0
      obtain ⟨n, rfl, Hi, Hk, Hne, ⟨m2, rfl⟩⟩ := hrel
      by_cases c4 : n < (a0.size : Int)
      · have c4b0 : decide (n < (a0.size : Int)) = true := decide_eq_true (by omega)
        have p6 : (0 ≤ n) = True := eq_true Hi.out.1
        have q6 : (n < (a0.size : Int)) = True := eq_true (by omega)
        have hx6 := bt_at a0 n
        have W1 : Aside0 (wrap64 (n + 1) = n + 1) := ⟨wrap_small Hi.out.1 (by have := Hi.out; have := hsz.out; omega)⟩
        have Hlt : Aside0 (n < (a0.size : Int)) := ⟨c4⟩
        clear c4
        by_cases c17 : (bt a0 n) = 47
        · have c17b0 : ((bt a0 n) == 47) = true := beq_iff_eq.mpr c17
          have c17b1 : ((bt a0 n) != 47) = false := bne_eq_false_iff_eq.mpr c17
          have Hend : Aside0 (n.toNat = a0.size ∨ (n.toNat < a0.size ∧ bt a0 (n.toNat : Int) = 47)) := ⟨.inr ⟨by have := Hlt.out; have := Hi.out; omega, by rw [show ((n.toNat : Nat) : Int) = n from by have := Hi.out; omega]; exact c17⟩⟩
          clear c17
          have c19b0 : (n ≤ (a0.size : Int)) = True := eq_true (by have := Hi.out; omega)
          have c19b1 : decide (n ≤ (a0.size : Int)) = true := decide_eq_true (by have := Hi.out; omega)
          have Hne0 : Aside0 (∀ j : Nat, j < n.toNat → bt a0 j ≠ 47) := ⟨fun j h => Hne.out j (by omega)⟩
          by_cases c20 : (a0.extract 0 n.toNat).toList = ([46] : List UInt8)
          · have DD : Aside0 (impl_IsDirectoryPath.f a0 = some true) := ⟨dir_yes a0 HOK.out n.toNat (by have := Hi.out; omega) Hend.out (.inl c20)⟩
            have c20b0 : ((a0.extract 0 n.toNat).toList == ([46] : List UInt8)) = true := beq_iff_eq.mpr c20
            have c20b1 : ((a0.extract 0 n.toNat).toList != ([46] : List UInt8)) = false := bne_eq_false_iff_eq.mpr c20
            clear c20
            go_wp2_with (first | ((with_reducible refine gate_callee (f := 4) rfl ?_); refine goesL_ (some 72) rfl rfl Try.func4 (by kernel_rfl) rfl #[.string a0] rfl (by (try simp only [List.map_toArray, List.map_cons, List.map_nil]); first | done | rfl | (simp only [List.length_drop, List.length_take]; rfl)) ?_; (with_reducible refine (impl_IsDirectoryPath.calls a0 true _ DD.out).mono ?_); rintro e w' ⟨rfl, ⟨nd, rfl⟩⟩; refine ⟨_, rfl, ?_⟩) | (go_at_call 4; (with_reducible refine (impl_IsDirectoryPath.calls (⟨#[46, 47, 97]⟩ : ByteArray) true _ D3.out).mono ?_); rintro e w' ⟨rfl, ⟨nd, rfl⟩⟩))
            go_ret
            exact ⟨rfl, by repeat (first | exact Drawn0.refl _ | apply Drawn0.step)⟩
          have c20b0 : ((a0.extract 0 n.toNat).toList == ([46] : List UInt8)) = false := beq_eq_false_iff_ne.mpr c20
          have c20b1 : ((a0.extract 0 n.toNat).toList != ([46] : List UInt8)) = true := bne_iff_ne.mpr c20
          by_cases c24 : (a0.extract 0 n.toNat).toList = ([46, 46] : List UInt8)
          · have DD : Aside0 (impl_IsDirectoryPath.f a0 = some true) := ⟨dir_yes a0 HOK.out n.toNat (by have := Hi.out; omega) Hend.out (.inr (.inl c24))⟩
            have c24b0 : ((a0.extract 0 n.toNat).toList == ([46, 46] : List UInt8)) = true := beq_iff_eq.mpr c24
            have c24b1 : ((a0.extract 0 n.toNat).toList != ([46, 46] : List UInt8)) = false := bne_eq_false_iff_eq.mpr c24
            clear c24
            go_wp2_with (first | ((with_reducible refine gate_callee (f := 4) rfl ?_); refine goesL_ (some 72) rfl rfl Try.func4 (by kernel_rfl) rfl #[.string a0] rfl (by (try simp only [List.map_toArray, List.map_cons, List.map_nil]); first | done | rfl | (simp only [List.length_drop, List.length_take]; rfl)) ?_; (with_reducible refine (impl_IsDirectoryPath.calls a0 true _ DD.out).mono ?_); rintro e w' ⟨rfl, ⟨nd, rfl⟩⟩; refine ⟨_, rfl, ?_⟩) | (go_at_call 4; (with_reducible refine (impl_IsDirectoryPath.calls (⟨#[46, 47, 97]⟩ : ByteArray) true _ D3.out).mono ?_); rintro e w' ⟨rfl, ⟨nd, rfl⟩⟩))
            go_ret
            exact ⟨rfl, by repeat (first | exact Drawn0.refl _ | apply Drawn0.step)⟩
          have c24b0 : ((a0.extract 0 n.toNat).toList == ([46, 46] : List UInt8)) = false := beq_eq_false_iff_ne.mpr c24
          have c24b1 : ((a0.extract 0 n.toNat).toList != ([46, 46] : List UInt8)) = true := bne_iff_ne.mpr c24
          by_cases c28 : n = 0
          · by_cases cz : 0 < a0.size
            · have DD : Aside0 (impl_IsDirectoryPath.f a0 = some true) := ⟨dir_yes a0 HOK.out n.toNat (by have := Hi.out; omega) Hend.out (.inr (.inr ⟨by omega, cz⟩))⟩
              have c28b0 : (n == 0) = true := beq_iff_eq.mpr (by omega)
              have c28b1 : (n != 0) = false := bne_eq_false_iff_eq.mpr (by omega)
              have czb0 : decide (0 < (a0.size : Int)) = true := decide_eq_true (by omega)
              have czb1 : decide (0 < a0.size) = true := decide_eq_true cz
              clear cz c28 c20 c24
              go_wp2_with (first | ((with_reducible refine gate_callee (f := 4) rfl ?_); refine goesL_ (some 72) rfl rfl Try.func4 (by kernel_rfl) rfl #[.string a0] rfl (by (try simp only [List.map_toArray, List.map_cons, List.map_nil]); first | done | rfl | (simp only [List.length_drop, List.length_take]; rfl)) ?_; (with_reducible refine (impl_IsDirectoryPath.calls a0 true _ DD.out).mono ?_); rintro e w' ⟨rfl, ⟨nd, rfl⟩⟩; refine ⟨_, rfl, ?_⟩) | (go_at_call 4; (with_reducible refine (impl_IsDirectoryPath.calls (⟨#[46, 47, 97]⟩ : ByteArray) true _ D3.out).mono ?_); rintro e w' ⟨rfl, ⟨nd, rfl⟩⟩))
              go_ret
              exact ⟨rfl, by repeat (first | exact Drawn0.refl _ | apply Drawn0.step)⟩
            · have DD : Aside0 (impl_IsDirectoryPath.f a0 = some false) := ⟨dir_no a0 HOK.out n.toNat (by have := Hi.out; omega) Hend.out Hne0.out c20 c24 (fun _ => by omega)⟩
              have c28b0 : (n == 0) = true := beq_iff_eq.mpr (by omega)
              have c28b1 : (n != 0) = false := bne_eq_false_iff_eq.mpr (by omega)
              have czb0 : decide (0 < (a0.size : Int)) = false := decide_eq_false (by omega)
              have czb1 : decide (0 < a0.size) = false := decide_eq_false cz
              clear cz c28 c20 c24
              go_wp2_with (first | ((with_reducible refine gate_callee (f := 4) rfl ?_); refine goesL_ (some 72) rfl rfl Try.func4 (by kernel_rfl) rfl #[.string a0] rfl (by (try simp only [List.map_toArray, List.map_cons, List.map_nil]); first | done | rfl | (simp only [List.length_drop, List.length_take]; rfl)) ?_; (with_reducible refine (impl_IsDirectoryPath.calls a0 false _ DD.out).mono ?_); rintro e w' ⟨rfl, ⟨nd, rfl⟩⟩; refine ⟨_, rfl, ?_⟩) | (go_at_call 4; (with_reducible refine (impl_IsDirectoryPath.calls (⟨#[46, 47, 97]⟩ : ByteArray) true _ D3.out).mono ?_); rintro e w' ⟨rfl, ⟨nd, rfl⟩⟩))
              go_ret
              exact ⟨rfl, by repeat (first | exact Drawn0.refl _ | apply Drawn0.step)⟩
          have DD : Aside0 (impl_IsDirectoryPath.f a0 = some false) := ⟨dir_no a0 HOK.out n.toNat (by have := Hi.out; omega) Hend.out Hne0.out c20 c24 (fun h => absurd h (by have := Hi.out; omega))⟩
          have c28b0 : (n == 0) = false := beq_eq_false_iff_ne.mpr (by omega)
          have c28b1 : (n != 0) = true := bne_iff_ne.mpr (by omega)
          clear c28 c20 c24
          go_wp2_with (first | ((with_reducible refine gate_callee (f := 4) rfl ?_); refine goesL_ (some 72) rfl rfl Try.func4 (by kernel_rfl) rfl #[.string a0] rfl (by (try simp only [List.map_toArray, List.map_cons, List.map_nil]); first | done | rfl | (simp only [List.length_drop, List.length_take]; rfl)) ?_; (with_reducible refine (impl_IsDirectoryPath.calls a0 false _ DD.out).mono ?_); rintro e w' ⟨rfl, ⟨nd, rfl⟩⟩; refine ⟨_, rfl, ?_⟩) | (go_at_call 4; (with_reducible refine (impl_IsDirectoryPath.calls (⟨#[46, 47, 97]⟩ : ByteArray) true _ D3.out).mono ?_); rintro e w' ⟨rfl, ⟨nd, rfl⟩⟩))
          go_ret
          exact ⟨rfl, by repeat (first | exact Drawn0.refl _ | apply Drawn0.step)⟩
        have c17b0 : ((bt a0 n) == 47) = false := beq_eq_false_iff_ne.mpr c17
        have c17b1 : ((bt a0 n) != 47) = true := bne_iff_ne.mpr c17
        have Hne' : Aside0 (∀ j : Nat, (j : Int) < wrap64 (n + 1) → bt a0 j ≠ 47) := ⟨fun j h => by
          rw [W1.out] at h
          by_cases e : (j : Int) = n
          · rw [e]; exact c17
          · exact Hne.out j (by omega)⟩
        clear c17
        go_wp2
        go_roundg (100 - (n + 1).toNat)
        case measure => have := Hk.out; have := Hlt.out; have := hsz.out; have := Hi.out; omega
        case rel => exact ⟨wrap64 (n + 1), rfl, ⟨by rw [W1.out]; have := Hi.out; have := Hlt.out; omega⟩, ⟨by rw [W1.out]⟩, Hne', by repeat (first | exact Drawn0.refl _ | apply Drawn0.step)⟩
      have c4b0 : decide (n < (a0.size : Int)) = false := decide_eq_false (by omega)
      have p6 : (0 ≤ n) = True := eq_true Hi.out.1
      have p6b : decide (0 ≤ n) = true := decide_eq_true Hi.out.1
      have Hend : Aside0 (n.toNat = a0.size ∨ (n.toNat < a0.size ∧ bt a0 (n.toNat : Int) = 47)) := ⟨.inl (by have := Hi.out; omega)⟩
      clear c4
      have c19b0 : (n ≤ (a0.size : Int)) = True := eq_true (by have := Hi.out; omega)
      have c19b1 : decide (n ≤ (a0.size : Int)) = true := decide_eq_true (by have := Hi.out; omega)
      have Hne0 : Aside0 (∀ j : Nat, j < n.toNat → bt a0 j ≠ 47) := ⟨fun j h => Hne.out j (by omega)⟩
      by_cases c20 : (a0.extract 0 n.toNat).toList = ([46] : List UInt8)
      · have DD : Aside0 (impl_IsDirectoryPath.f a0 = some true) := ⟨dir_yes a0 HOK.out n.toNat (by have := Hi.out; omega) Hend.out (.inl c20)⟩
        have c20b0 : ((a0.extract 0 n.toNat).toList == ([46] : List UInt8)) = true := beq_iff_eq.mpr c20
        have c20b1 : ((a0.extract 0 n.toNat).toList != ([46] : List UInt8)) = false := bne_eq_false_iff_eq.mpr c20
        clear c20
        go_wp2_with (first | ((with_reducible refine gate_callee (f := 4) rfl ?_); refine goesL_ (some 72) rfl rfl Try.func4 (by kernel_rfl) rfl #[.string a0] rfl (by (try simp only [List.map_toArray, List.map_cons, List.map_nil]); first | done | rfl | (simp only [List.length_drop, List.length_take]; rfl)) ?_; (with_reducible refine (impl_IsDirectoryPath.calls a0 true _ DD.out).mono ?_); rintro e w' ⟨rfl, ⟨nd, rfl⟩⟩; refine ⟨_, rfl, ?_⟩) | (go_at_call 4; (with_reducible refine (impl_IsDirectoryPath.calls (⟨#[46, 47, 97]⟩ : ByteArray) true _ D3.out).mono ?_); rintro e w' ⟨rfl, ⟨nd, rfl⟩⟩))
        go_ret
        exact ⟨rfl, by repeat (first | exact Drawn0.refl _ | apply Drawn0.step)⟩
      have c20b0 : ((a0.extract 0 n.toNat).toList == ([46] : List UInt8)) = false := beq_eq_false_iff_ne.mpr c20
      have c20b1 : ((a0.extract 0 n.toNat).toList != ([46] : List UInt8)) = true := bne_iff_ne.mpr c20
      by_cases c24 : (a0.extract 0 n.toNat).toList = ([46, 46] : List UInt8)
      · have DD : Aside0 (impl_IsDirectoryPath.f a0 = some true) := ⟨dir_yes a0 HOK.out n.toNat (by have := Hi.out; omega) Hend.out (.inr (.inl c24))⟩
        have c24b0 : ((a0.extract 0 n.toNat).toList == ([46, 46] : List UInt8)) = true := beq_iff_eq.mpr c24
        have c24b1 : ((a0.extract 0 n.toNat).toList != ([46, 46] : List UInt8)) = false := bne_eq_false_iff_eq.mpr c24
        clear c24
        go_wp2_with (first | ((with_reducible refine gate_callee (f := 4) rfl ?_); refine goesL_ (some 72) rfl rfl Try.func4 (by kernel_rfl) rfl #[.string a0] rfl (by (try simp only [List.map_toArray, List.map_cons, List.map_nil]); first | done | rfl | (simp only [List.length_drop, List.length_take]; rfl)) ?_; (with_reducible refine (impl_IsDirectoryPath.calls a0 true _ DD.out).mono ?_); rintro e w' ⟨rfl, ⟨nd, rfl⟩⟩; refine ⟨_, rfl, ?_⟩) | (go_at_call 4; (with_reducible refine (impl_IsDirectoryPath.calls (⟨#[46, 47, 97]⟩ : ByteArray) true _ D3.out).mono ?_); rintro e w' ⟨rfl, ⟨nd, rfl⟩⟩))
        go_ret
        exact ⟨rfl, by repeat (first | exact Drawn0.refl _ | apply Drawn0.step)⟩
      have c24b0 : ((a0.extract 0 n.toNat).toList == ([46, 46] : List UInt8)) = false := beq_eq_false_iff_ne.mpr c24
      have c24b1 : ((a0.extract 0 n.toNat).toList != ([46, 46] : List UInt8)) = true := bne_iff_ne.mpr c24
      by_cases c28 : n = 0
      · by_cases cz : 0 < a0.size
        · have DD : Aside0 (impl_IsDirectoryPath.f a0 = some true) := ⟨dir_yes a0 HOK.out n.toNat (by have := Hi.out; omega) Hend.out (.inr (.inr ⟨by omega, cz⟩))⟩
          have c28b0 : (n == 0) = true := beq_iff_eq.mpr (by omega)
          have c28b1 : (n != 0) = false := bne_eq_false_iff_eq.mpr (by omega)
          have czb0 : decide (0 < (a0.size : Int)) = true := decide_eq_true (by omega)
          have czb1 : decide (0 < a0.size) = true := decide_eq_true cz
          clear cz c28 c20 c24
          go_wp2_with (first | ((with_reducible refine gate_callee (f := 4) rfl ?_); refine goesL_ (some 72) rfl rfl Try.func4 (by kernel_rfl) rfl #[.string a0] rfl (by (try simp only [List.map_toArray, List.map_cons, List.map_nil]); first | done | rfl | (simp only [List.length_drop, List.length_take]; rfl)) ?_; (with_reducible refine (impl_IsDirectoryPath.calls a0 true _ DD.out).mono ?_); rintro e w' ⟨rfl, ⟨nd, rfl⟩⟩; refine ⟨_, rfl, ?_⟩) | (go_at_call 4; (with_reducible refine (impl_IsDirectoryPath.calls (⟨#[46, 47, 97]⟩ : ByteArray) true _ D3.out).mono ?_); rintro e w' ⟨rfl, ⟨nd, rfl⟩⟩))
          go_ret
          exact ⟨rfl, by repeat (first | exact Drawn0.refl _ | apply Drawn0.step)⟩
        · have DD : Aside0 (impl_IsDirectoryPath.f a0 = some false) := ⟨dir_no a0 HOK.out n.toNat (by have := Hi.out; omega) Hend.out Hne0.out c20 c24 (fun _ => by omega)⟩
          have c28b0 : (n == 0) = true := beq_iff_eq.mpr (by omega)
          have c28b1 : (n != 0) = false := bne_eq_false_iff_eq.mpr (by omega)
          have czb0 : decide (0 < (a0.size : Int)) = false := decide_eq_false (by omega)
          have czb1 : decide (0 < a0.size) = false := decide_eq_false cz
          clear cz c28 c20 c24
          go_wp2_with (first | ((with_reducible refine gate_callee (f := 4) rfl ?_); refine goesL_ (some 72) rfl rfl Try.func4 (by kernel_rfl) rfl #[.string a0] rfl (by (try simp only [List.map_toArray, List.map_cons, List.map_nil]); first | done | rfl | (simp only [List.length_drop, List.length_take]; rfl)) ?_; (with_reducible refine (impl_IsDirectoryPath.calls a0 false _ DD.out).mono ?_); rintro e w' ⟨rfl, ⟨nd, rfl⟩⟩; refine ⟨_, rfl, ?_⟩) | (go_at_call 4; (with_reducible refine (impl_IsDirectoryPath.calls (⟨#[46, 47, 97]⟩ : ByteArray) true _ D3.out).mono ?_); rintro e w' ⟨rfl, ⟨nd, rfl⟩⟩))
          go_ret
          exact ⟨rfl, by repeat (first | exact Drawn0.refl _ | apply Drawn0.step)⟩
      have DD : Aside0 (impl_IsDirectoryPath.f a0 = some false) := ⟨dir_no a0 HOK.out n.toNat (by have := Hi.out; omega) Hend.out Hne0.out c20 c24 (fun h => absurd h (by have := Hi.out; omega))⟩
      have c28b0 : (n == 0) = false := beq_eq_false_iff_ne.mpr (by omega)
      have c28b1 : (n != 0) = true := bne_iff_ne.mpr (by omega)
      clear c28 c20 c24
      go_wp2_with (first | ((with_reducible refine gate_callee (f := 4) rfl ?_); refine goesL_ (some 72) rfl rfl Try.func4 (by kernel_rfl) rfl #[.string a0] rfl (by (try simp only [List.map_toArray, List.map_cons, List.map_nil]); first | done | rfl | (simp only [List.length_drop, List.length_take]; rfl)) ?_; (with_reducible refine (impl_IsDirectoryPath.calls a0 false _ DD.out).mono ?_); rintro e w' ⟨rfl, ⟨nd, rfl⟩⟩; refine ⟨_, rfl, ?_⟩) | (go_at_call 4; (with_reducible refine (impl_IsDirectoryPath.calls (⟨#[46, 47, 97]⟩ : ByteArray) true _ D3.out).mono ?_); rintro e w' ⟨rfl, ⟨nd, rfl⟩⟩))
      go_ret
      exact ⟨rfl, by repeat (first | exact Drawn0.refl _ | apply Drawn0.step)⟩

theorem walk (a0 : ByteArray) (w : World) : Calls Try.prog 3 #[.string a0] w fun e w' => e = .returned (.bool true) ∧ Below w.heap.size w w' :=
  (fn_any a0 w).mono fun _ _ ⟨h, d⟩ => ⟨h, d.below⟩
end Go.Proofs.Ytikgnlgmidbclaa.Dir
