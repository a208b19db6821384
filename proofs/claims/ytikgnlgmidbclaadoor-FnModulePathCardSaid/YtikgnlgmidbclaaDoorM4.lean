/- The walk of modfile.ModulePath: at a text whose first lines MP tells it returns the module's path, and nothing without one. Conditions: MP, at most 20000 bytes, the tables of bytes and utf8. -/
import Derived.Test.YtikgnlgmidbclaaDoorM3
namespace Go.Proofs.YtikgnlgmidbclaaDoor.Plain
set_option linter.unusedVariables false
set_option linter.unusedSimpArgs false
open Go.RowKit Go.Proofs.YtikgnlgmidbclaaDoor.PFnModulePath Go.Proofs.YtikgnlgmidbclaaDoorW.PrintWords

set_option maxHeartbeats 4000000 in
set_option maxRecDepth 100000 in
theorem mp_walk (g : Nat) (T : List UInt8) (c : Nat) (w : World) (hc : T.length ≤ c) (hT9 : T.length ≤ 20000) (hb : BytesAt w g 0 T) (R : ByteArray) (k0 : Nat) (hM : MP R k0 T)
    (htab : Lib.TabIs Tryd.prog w "bytes.asciiSpace" .u8 Lib.asciiSpaceTab) (hU : Lib.Utf8Tabs (Tryd.laysValid_ren.g 3) (Tryd.laysValid_ren.g 4) w) :
    Calls Tryd.prog 13 #[.slice (some ⟨g, 0, none⟩) T.length c] w fun e w' => e = .returned (.string R) ∧ Below w.heap.size w w' := by
  have HTAB := Aside0.mk htab
  have HU := Aside0.mk hU
  have S0 : Aside0 (T.length ≤ c ∧ T.length ≤ 20000 ∧ BytesAt w g 0 T) := ⟨hc, hT9, hb⟩
  have M0 := Aside0.mk hM
  have HB0 := Aside0.mk (Below.refl w.heap.size w)
  clear htab hU hc hT9 hb hM
  go_enter Tryd.func13, Tryd.ntmps13
  go_wp2
  go_loopg [0] k0 (fun kq v0 w' => ∃ (wr : World) (A : Option Addr) (o n c : Nat) (D : List UInt8), wr = w' ∧ v0 = .slice A n c ∧ Aside0 (D.length = n ∧ n ≤ c ∧ n ≤ 20000 ∧ (0 < n → A = some ⟨g, o, none⟩ ∧ BytesAt wr g o D)) ∧ Aside0 (MP R kq D) ∧ Aside0 (Below w.heap.size w wr))
  case atStart => exact ⟨_, _, 0, _, _, T, rfl, rfl, ⟨rfl, S0.out.1, S0.out.2.1, fun _ => ⟨rfl, S0.out.2.2⟩⟩, M0, HB0⟩
  case round =>
    clear S0 M0 HB0
    obtain ⟨wr, A, o, n, c1, D, rfl, rfl, HS, HM, HB⟩ := hrel
    have HTR : Aside0 (Lib.TabIs Tryd.prog wr "bytes.asciiSpace" .u8 Lib.asciiSpaceTab) := ⟨tab_below HTAB.out HB.out⟩
    have HUR : Aside0 (Lib.Utf8Tabs (Tryd.laysValid_ren.g 3) (Tryd.laysValid_ren.g 4) wr) := ⟨tabs_below HU.out HB.out⟩
    clear HTAB HU
    cases gk with
    | zero =>
      obtain ⟨hD, hR⟩ := HM.out
      subst hR
      have hn0 : n = 0 := by have := HS.out.1; rw [hD] at this; exact this.symm
      have f1 : decide (0 < (n : Int)) = false := decide_eq_false (by omega)
      have f2 : decide (0 < n) = false := decide_eq_false (by omega)
      clear hn0 HM HS
      go_wp2
      go_ret
      exact ⟨rfl, HB.out⟩
    | succ kk =>
      have kc : ∀ (k : Nat) (C : Array Value) (n c : Nat), (convert 23 23 (.slice (some ⟨wr.heap.size, 0, none⟩) n c)).run Tryd.prog ((wr.drewN k).alloc (.cells C 5)) = .ok (.slice (some ⟨wr.heap.size, 0, none⟩) n c) ((wr.drewN k).alloc (.cells C 5 (C.size, C.size + 1))) := fun k C n c => Lib.run_convert_bytes_const (P := Tryd.prog) (wr.drewN k) 23 5 C n c Tryd.underlying23 Tryd.underlying5
      have bel : ∀ (k : Nat) (x : Obj), Below wr.heap.size wr ((wr.drewN k).alloc x) := fun k x => below_alloc (pw_below_drewN (Below.refl _ _) k) x
      have BEL := Aside0.mk bel
      clear bel
      have MC := HM.out
      clear HM
      rcases MC with ⟨L, r, hD, hnl, hM'⟩ | ⟨L, r, hD, hnl, hns, hasc, htight, hpre, hM'⟩ | ⟨L, r, hD, hhit⟩
      · have HM2 := Aside0.mk hM'
        clear hM'
        have hDl : D.length = (47 :: 47 :: L).length + 1 + r.length := by rw [hD]; simp; omega
        obtain ⟨hn, hnc, hn9, hat⟩ := HS.out
        clear HS
        have hpos : 0 < n := by omega
        obtain ⟨hA, hbt⟩ := hat hpos
        subst hA
        obtain ⟨m, hm⟩ : ∃ m : Nat, m = (47 :: 47 :: L).length := ⟨_, rfl⟩
        have f1 : decide (0 < (n : Int)) = true := decide_eq_true (by omega)
        have f2 : decide (0 < n) = true := decide_eq_true hpos
        have bD : BytesAt wr g o ([] ++ (47 :: 47 :: L) ++ (10 :: r)) := by rw [List.nil_append, ← hD]; exact hbt
        have bL : BytesAt wr g o (47 :: 47 :: L) := by have := bD.sub; simpa using this
        have bR : BytesAt wr g (o + (m + 1)) r := by
          have h0 : BytesAt wr g o (((47 :: 47 :: L) ++ [10]) ++ r ++ []) := by rw [List.append_nil, List.append_assoc]; exact hD ▸ hbt
          have := h0.sub
          rw [hm]; simpa using this
        have cv : (convert 23 9 (.slice (some ⟨g, o, none⟩) n c1)).run Tryd.prog wr = .ok (.string ⟨D.toArray⟩) wr := hbt.conv n c1 hn
        have zz : ∀ W, Calls Tryd.prog 25 #[.string ⟨D.toArray⟩, .string ⟨#[10]⟩] W fun e w' => e = .returned (.int .i64 (m : Int)) ∧ Drawn0 W w' := fun W => by
          rw [hD, hm]; exact zz_nl (47 :: 47 :: L) r hnl (by rw [← hD]; omega) W
        have sl1 : ∀ W : World, (Instr.slice 23 (.slice (some ⟨g, o, none⟩) n c1) none (some (.int .i64 (m : Int))) none).run Tryd.prog W = .ok (.slice (some ⟨g, o, none⟩) m c1) W := fun W => take_run _ n c1 m (by omega) W
        obtain ⟨A2, hA2, _, sl2⟩ := drop_run g o n c1 (m + 1) (by omega) hnc
        rw [show ((m + 1 : Nat) : Int) = (m : Int) + 1 from by omega] at sl2
        have cv2 : ∀ k, (convert 23 9 (.slice (some ⟨g, o, none⟩) m c1)).run Tryd.prog (wr.drewN k) = .ok (.string ⟨((47 :: 47 :: L)).toArray⟩) (wr.drewN k) := fun k => (bL.drewN k).conv m c1 hm.symm
        have hw1 : IntKind.i64.wrap ((m : Int) + 1) = (m : Int) + 1 := IntWalk.i64_in _ (by omega)
        have hw2 : (0 : Int) ≤ (m : Int) + 1 := by omega
        have g0 : decide (0 ≤ (m : Int)) = true := decide_eq_true (by omega)
        have zz2 : ∀ W, Calls Tryd.prog 25 #[.string ⟨(47 :: 47 :: L).toArray⟩, .string ⟨#[47, 47]⟩] W fun e w' => e = .returned (.int .i64 0) ∧ Drawn0 W w' := fun W => zz_zero L (by omega) W
        have sl0 : ∀ W : World, (Instr.slice 23 (.slice (some ⟨g, o, none⟩) m c1) none (some (.int .i64 0)) none).run Tryd.prog W = .ok (.slice (some ⟨g, o, none⟩) 0 c1) W := fun W => take_run _ m c1 0 (by omega) W
        have ts : ∀ k, Calls Tryd.prog 26 #[.slice (some ⟨g, o, none⟩) 0 c1] (wr.drewN k) fun e w' => e = .returned (.slice none 0 0) ∧ w' = wr.drewN k := fun k => by
          have := trim_calls (w := wr.drewN k) (g := g) (o := o) (c := c1) (D := []) (fun i hi => absurd hi (by simp)) (by simp) (by simp) (fun b hb => absurd hb (by simp)) (tab_below HTR.out (pw_below_drewN (Below.refl _ _) k))
          rwa [trim_nil] at this
        have hp : ∀ k, Calls Tryd.prog 27 #[.slice none 0 0, .slice (some ⟨wr.heap.size, 0, none⟩) 6 6] ((wr.drewN k).alloc (.cells #[.int .u8 109, .int .u8 111, .int .u8 100, .int .u8 117, .int .u8 108, .int .u8 101] 5 (6, 7))) fun e w' => e = .returned (.bool false) ∧ w' = (wr.drewN k).alloc (.cells #[.int .u8 109, .int .u8 111, .int .u8 100, .int .u8 117, .int .u8 108, .int .u8 101] 5 (6, 7)) := fun k =>
          pre_calls (W := wr) (A := none) (D := []) k 0 (by simp) (Lib.BytesIn.nil _ _ _) false rfl
        have NX : Aside0 (r.length = n - (m + 1) ∧ n - (m + 1) ≤ c1 - (m + 1) ∧ n - (m + 1) ≤ 20000 ∧ (0 < n - (m + 1) → A2 = some ⟨g, o + (m + 1), none⟩ ∧ BytesAt wr g (o + (m + 1)) r)) := ⟨by omega, by omega, by omega, fun h => ⟨hA2 h, bR⟩⟩
        have HBT := Aside0.mk hbt
        have BL := Aside0.mk bL
        have HMD := Aside0.mk hm
        have HNN := Aside0.mk (And.intro hn (And.intro hnc hn9))
        clear hA2 bR bD bL hbt hm hn hDl hnc hn9 hat hpos
        clear hD hnl
        go_wp2_with (first | (go_at_call 25; (first | (with_reducible refine (zz _).mono ?_) | (with_reducible refine (zz2 _).mono ?_)); rintro e w' ⟨rfl, ⟨nd, rfl⟩⟩))
        go_quiet (fail)
        go_wp2_with (first | (go_at_call 25; (first | (with_reducible refine (zz _).mono ?_) | (with_reducible refine (zz2 _).mono ?_)); rintro e w' ⟨rfl, ⟨nd, rfl⟩⟩) | (go_at_call 26; (first | (with_reducible refine (ts _).mono ?_)); rintro e w' ⟨rfl, rfl⟩) | (go_at_call 27; (with_reducible refine (hp _).mono ?_); rintro e w' ⟨rfl, rfl⟩))
        go_roundg kk
        case measure => omega
        case rel => exact ⟨_, A2, o + (m + 1), n - (m + 1), c1 - (m + 1), r, rfl, rfl, ⟨NX.out.1, NX.out.2.1, NX.out.2.2.1, fun h => ⟨(NX.out.2.2.2 h).1, (NX.out.2.2.2 h).2.below (BEL.out _ _)⟩⟩, HM2, ⟨HB.out.trans ((BEL.out _ _).mono (by have := HB.out.size; omega))⟩⟩
      · have HM2 := Aside0.mk hM'
        clear hM'
        have hDl : D.length = L.length + 1 + r.length := by rw [hD]; simp; omega
        obtain ⟨hn, hnc, hn9, hat⟩ := HS.out
        clear HS
        have hpos : 0 < n := by omega
        obtain ⟨hA, hbt⟩ := hat hpos
        subst hA
        obtain ⟨m, hm⟩ : ∃ m : Nat, m = L.length := ⟨_, rfl⟩
        have f1 : decide (0 < (n : Int)) = true := decide_eq_true (by omega)
        have f2 : decide (0 < n) = true := decide_eq_true hpos
        have bD : BytesAt wr g o ([] ++ L ++ (10 :: r)) := by rw [List.nil_append, ← hD]; exact hbt
        have bL : BytesAt wr g o L := by have := bD.sub; simpa using this
        have bR : BytesAt wr g (o + (m + 1)) r := by
          have h0 : BytesAt wr g o ((L ++ [10]) ++ r ++ []) := by rw [List.append_nil, List.append_assoc]; exact hD ▸ hbt
          have := h0.sub
          rw [hm]; simpa using this
        have cv : (convert 23 9 (.slice (some ⟨g, o, none⟩) n c1)).run Tryd.prog wr = .ok (.string ⟨D.toArray⟩) wr := hbt.conv n c1 hn
        have zz : ∀ W, Calls Tryd.prog 25 #[.string ⟨D.toArray⟩, .string ⟨#[10]⟩] W fun e w' => e = .returned (.int .i64 (m : Int)) ∧ Drawn0 W w' := fun W => by
          rw [hD, hm]; exact zz_nl L r hnl (by rw [← hD]; omega) W
        have sl1 : ∀ W : World, (Instr.slice 23 (.slice (some ⟨g, o, none⟩) n c1) none (some (.int .i64 (m : Int))) none).run Tryd.prog W = .ok (.slice (some ⟨g, o, none⟩) m c1) W := fun W => take_run _ n c1 m (by omega) W
        obtain ⟨A2, hA2, _, sl2⟩ := drop_run g o n c1 (m + 1) (by omega) hnc
        rw [show ((m + 1 : Nat) : Int) = (m : Int) + 1 from by omega] at sl2
        have cv2 : ∀ k, (convert 23 9 (.slice (some ⟨g, o, none⟩) m c1)).run Tryd.prog (wr.drewN k) = .ok (.string ⟨(L).toArray⟩) (wr.drewN k) := fun k => (bL.drewN k).conv m c1 hm.symm
        have hw1 : IntKind.i64.wrap ((m : Int) + 1) = (m : Int) + 1 := IntWalk.i64_in _ (by omega)
        have hw2 : (0 : Int) ≤ (m : Int) + 1 := by omega
        have g0 : decide (0 ≤ (m : Int)) = true := decide_eq_true (by omega)
        have zz2 : ∀ W, Calls Tryd.prog 25 #[.string ⟨L.toArray⟩, .string ⟨#[47, 47]⟩] W fun e w' => e = .returned (.int .i64 (-1)) ∧ Drawn0 W w' := fun W => zz_no L hns (by omega) W
        have ts : ∀ k, Calls Tryd.prog 26 #[.slice (some ⟨g, o, none⟩) m c1] (wr.drewN k) fun e w' => e = .returned (.slice (some ⟨g, o, none⟩) m c1) ∧ w' = wr.drewN k := fun k => by
          have := trim_calls (w := wr.drewN k) (g := g) (o := o) (c := c1) (D := L) (bL.drewN k) (by omega) (by omega) hasc (tab_below HTR.out (pw_below_drewN (Below.refl _ _) k))
          have e := trim_mid g o c1 [] L [] (fun b hb => absurd hb (by simp)) (fun b hb => absurd hb (by simp)) htight
          rw [List.nil_append, List.append_nil] at e
          rw [e, ← hm] at this
          exact this
        have hp : ∀ k, Calls Tryd.prog 27 #[.slice (some ⟨g, o, none⟩) m c1, .slice (some ⟨wr.heap.size, 0, none⟩) 6 6] ((wr.drewN k).alloc (.cells #[.int .u8 109, .int .u8 111, .int .u8 100, .int .u8 117, .int .u8 108, .int .u8 101] 5 (6, 7))) fun e w' => e = .returned (.bool false) ∧ w' = (wr.drewN k).alloc (.cells #[.int .u8 109, .int .u8 111, .int .u8 100, .int .u8 117, .int .u8 108, .int .u8 101] 5 (6, 7)) := fun k => by
          rw [hm]
          exact pre_calls (W := wr) (A := some ⟨g, o, none⟩) (D := L) k c1 (by omega) (bL.below (BEL.out _ _)).in_ false hpre
        have NX : Aside0 (r.length = n - (m + 1) ∧ n - (m + 1) ≤ c1 - (m + 1) ∧ n - (m + 1) ≤ 20000 ∧ (0 < n - (m + 1) → A2 = some ⟨g, o + (m + 1), none⟩ ∧ BytesAt wr g (o + (m + 1)) r)) := ⟨by omega, by omega, by omega, fun h => ⟨hA2 h, bR⟩⟩
        have HBT := Aside0.mk hbt
        have BL := Aside0.mk bL
        have HMD := Aside0.mk hm
        have HNN := Aside0.mk (And.intro hn (And.intro hnc hn9))
        clear hA2 bR bD bL hbt hm hn hDl hnc hn9 hat hpos
        clear hD hnl hns hasc htight hpre
        go_wp2_with (first | (go_at_call 25; (first | (with_reducible refine (zz _).mono ?_) | (with_reducible refine (zz2 _).mono ?_)); rintro e w' ⟨rfl, ⟨nd, rfl⟩⟩))
        go_quiet (fail)
        go_wp2_with (first | (go_at_call 25; (first | (with_reducible refine (zz _).mono ?_) | (with_reducible refine (zz2 _).mono ?_)); rintro e w' ⟨rfl, ⟨nd, rfl⟩⟩) | (go_at_call 26; (first | (with_reducible refine (ts _).mono ?_)); rintro e w' ⟨rfl, rfl⟩) | (go_at_call 27; (with_reducible refine (hp _).mono ?_); rintro e w' ⟨rfl, rfl⟩))
        go_roundg kk
        case measure => omega
        case rel => exact ⟨_, A2, o + (m + 1), n - (m + 1), c1 - (m + 1), r, rfl, rfl, ⟨NX.out.1, NX.out.2.1, NX.out.2.2.1, fun h => ⟨(NX.out.2.2.2 h).1, (NX.out.2.2.2 h).2.below (BEL.out _ _)⟩⟩, HM2, ⟨HB.out.trans ((BEL.out _ _).mono (by have := HB.out.size; omega))⟩⟩
      · obtain ⟨G1, G2, Q, G3, hL, s1, s2, s2n, s3, tQ, hasc, hnl, hns, hq⟩ := hhit
        have hDl : D.length = L.length + 1 + r.length := by rw [hD]; simp; omega
        obtain ⟨hn, hnc, hn9, hat⟩ := HS.out
        clear HS
        have hpos : 0 < n := by omega
        obtain ⟨hA, hbt⟩ := hat hpos
        subst hA
        obtain ⟨m, hm⟩ : ∃ m : Nat, m = L.length := ⟨_, rfl⟩
        have f1 : decide (0 < (n : Int)) = true := decide_eq_true (by omega)
        have f2 : decide (0 < n) = true := decide_eq_true hpos
        have bD : BytesAt wr g o ([] ++ L ++ (10 :: r)) := by rw [List.nil_append, ← hD]; exact hbt
        have bL : BytesAt wr g o L := by have := bD.sub; simpa using this
        have bR : BytesAt wr g (o + (m + 1)) r := by
          have h0 : BytesAt wr g o ((L ++ [10]) ++ r ++ []) := by rw [List.append_nil, List.append_assoc]; exact hD ▸ hbt
          have := h0.sub
          rw [hm]; simpa using this
        have cv : (convert 23 9 (.slice (some ⟨g, o, none⟩) n c1)).run Tryd.prog wr = .ok (.string ⟨D.toArray⟩) wr := hbt.conv n c1 hn
        have zz : ∀ W, Calls Tryd.prog 25 #[.string ⟨D.toArray⟩, .string ⟨#[10]⟩] W fun e w' => e = .returned (.int .i64 (m : Int)) ∧ Drawn0 W w' := fun W => by
          rw [hD, hm]; exact zz_nl L r hnl (by rw [← hD]; omega) W
        have sl1 : ∀ W : World, (Instr.slice 23 (.slice (some ⟨g, o, none⟩) n c1) none (some (.int .i64 (m : Int))) none).run Tryd.prog W = .ok (.slice (some ⟨g, o, none⟩) m c1) W := fun W => take_run _ n c1 m (by omega) W
        obtain ⟨A2, hA2, _, sl2⟩ := drop_run g o n c1 (m + 1) (by omega) hnc
        rw [show ((m + 1 : Nat) : Int) = (m : Int) + 1 from by omega] at sl2
        have cv2 : ∀ k, (convert 23 9 (.slice (some ⟨g, o, none⟩) m c1)).run Tryd.prog (wr.drewN k) = .ok (.string ⟨(L).toArray⟩) (wr.drewN k) := fun k => (bL.drewN k).conv m c1 hm.symm
        have hw1 : IntKind.i64.wrap ((m : Int) + 1) = (m : Int) + 1 := IntWalk.i64_in _ (by omega)
        have hw2 : (0 : Int) ≤ (m : Int) + 1 := by omega
        have g0 : decide (0 ≤ (m : Int)) = true := decide_eq_true (by omega)
        have hQp : 0 < Q.length := List.length_pos_iff.2 tQ.1
        have hG2p : 0 < G2.length := List.length_pos_iff.2 s2n
        have hLl : L.length = G1.length + (6 + G2.length + Q.length) + G3.length := by rw [hL]; simp [modL]; omega
        have tM : Tight (modL ++ G2 ++ Q) := by
          refine ⟨by simp [modL], fun x hx => ?_, fun x hx => ?_⟩
          · have : x = 109 := by simp [modL] at hx; exact hx.symm
            rw [this]; rfl
          · refine tQ.2.2 x ?_
            rw [List.getElem?_append_right (by simp; omega)] at hx
            rw [show (modL ++ G2 ++ Q).length - 1 - (modL ++ G2).length = Q.length - 1 from by simp; omega] at hx
            exact hx
        have bM : BytesAt wr g (o + G1.length) (modL ++ G2 ++ Q) := BytesAt.sub (C := G3) (hL ▸ bL)
        have bG : BytesAt wr g (o + G1.length + 6) (G2 ++ Q) := by
          have := BytesAt.sub (A := modL) (B := G2 ++ Q) (C := []) (by rw [List.append_nil, ← List.append_assoc]; exact bM)
          exact this
        have bQ : BytesAt wr g (o + G1.length + 6 + G2.length) Q := BytesAt.sub (A := G2) (B := Q) (C := []) (by rw [List.append_nil]; exact bG)
        obtain ⟨t, ht⟩ : ∃ t : Nat, t = 6 + G2.length + Q.length := ⟨_, rfl⟩
        obtain ⟨o3, ho3⟩ : ∃ o3 : Nat, o3 = o + G1.length := ⟨_, rfl⟩
        obtain ⟨c3, hc3⟩ : ∃ c3 : Nat, c3 = c1 - G1.length := ⟨_, rfl⟩
        obtain ⟨o5, ho5⟩ : ∃ o5 : Nat, o5 = o3 + 6 + G2.length := ⟨_, rfl⟩
        obtain ⟨c5, hc5⟩ : ∃ c5 : Nat, c5 = c3 - 6 - G2.length := ⟨_, rfl⟩
        obtain ⟨u, hu⟩ : ∃ u : Nat, u = Q.length := ⟨_, rfl⟩
        have asM : Ascii (modL ++ G2 ++ Q) := fun b hb => hasc b (by rw [hL]; exact List.mem_append_left _ (List.mem_append_right _ hb))
        have zz2 : ∀ W, Calls Tryd.prog 25 #[.string ⟨L.toArray⟩, .string ⟨#[47, 47]⟩] W fun e w' => e = .returned (.int .i64 (-1)) ∧ Drawn0 W w' := fun W => zz_no L hns (by omega) W
        have ts : ∀ k, Calls Tryd.prog 26 #[.slice (some ⟨g, o, none⟩) m c1] (wr.drewN k) fun e w' => e = .returned (.slice (some ⟨g, o3, none⟩) t c3) ∧ w' = wr.drewN k := fun k => by
          have := trim_calls (w := wr.drewN k) (g := g) (o := o) (c := c1) (D := L) (bL.drewN k) (by omega) (by omega) hasc (tab_below HTR.out (pw_below_drewN (Below.refl _ _) k))
          have e := trim_mid g o c1 G1 (modL ++ G2 ++ Q) G3 s1 s3 tM
          rw [← hL] at e
          rw [e, ← hm, show (modL ++ G2 ++ Q).length = t from by rw [ht]; simp [modL]; omega, ← ho3, ← hc3] at this
          exact this
        have hp : ∀ k, Calls Tryd.prog 27 #[.slice (some ⟨g, o3, none⟩) t c3, .slice (some ⟨wr.heap.size, 0, none⟩) 6 6] ((wr.drewN k).alloc (.cells #[.int .u8 109, .int .u8 111, .int .u8 100, .int .u8 117, .int .u8 108, .int .u8 101] 5 (6, 7))) fun e w' => e = .returned (.bool true) ∧ w' = (wr.drewN k).alloc (.cells #[.int .u8 109, .int .u8 111, .int .u8 100, .int .u8 117, .int .u8 108, .int .u8 101] 5 (6, 7)) := fun k => by
          have hl : (modL ++ G2 ++ Q).length = t := by rw [ht]; simp [modL]; omega
          rw [← hl]
          refine pre_calls (W := wr) (A := some ⟨g, o3, none⟩) (D := modL ++ G2 ++ Q) k c3 (by omega) ?_ true ?_
          · rw [ho3]; exact (bM.below (BEL.out _ _)).in_
          · unfold Lib.hasPrefix; simp [modL]
        have sl3 : ∀ W : World, (Instr.slice 23 (.slice (some ⟨g, o3, none⟩) t c3) (some (.int .i64 6)) none none).run Tryd.prog W = .ok (.slice (some ⟨g, o3 + 6, none⟩) (t - 6) (c3 - 6)) W := by
          obtain ⟨A4, hA4, _, h4⟩ := drop_run g o3 t c3 6 (by omega) (by omega)
          rw [hA4 (by omega)] at h4
          exact h4
        have ts2 : ∀ k, Calls Tryd.prog 26 #[.slice (some ⟨g, o3 + 6, none⟩) (t - 6) (c3 - 6)] ((wr.drewN k).alloc (.cells #[.int .u8 109, .int .u8 111, .int .u8 100, .int .u8 117, .int .u8 108, .int .u8 101] 5 (6, 7))) fun e w' => e = .returned (.slice (some ⟨g, o5, none⟩) u c5) ∧ w' = (wr.drewN k).alloc (.cells #[.int .u8 109, .int .u8 111, .int .u8 100, .int .u8 117, .int .u8 108, .int .u8 101] 5 (6, 7)) := fun k => by
          have := trim_calls (w := (wr.drewN k).alloc (.cells #[.int .u8 109, .int .u8 111, .int .u8 100, .int .u8 117, .int .u8 108, .int .u8 101] 5 (6, 7))) (g := g) (o := o3 + 6) (c := c3 - 6) (D := G2 ++ Q) (by rw [ho3]; exact bG.below (BEL.out _ _)) (by simp; omega) (by simp; omega) (fun b hb => asM b (by
            rcases List.mem_append.1 hb with h | h
            · exact List.mem_append_left _ (List.mem_append_right _ h)
            · exact List.mem_append_right _ h)) (tab_below HTR.out (BEL.out _ _))
          have e := trim_mid g (o3 + 6) (c3 - 6) G2 Q [] s2 (fun b hb => absurd hb (by simp)) tQ
          rw [List.append_nil] at e
          rw [e, ← hu, ← ho5, ← hc5, show (G2 ++ Q).length = t - 6 from by simp; omega] at this
          exact this
        have g1 : ((u : Int) == ((t - 6 : Nat) : Int)) = false := beq_eq_false_iff_ne.mpr (by omega)
        have g1b : (u == t - 6) = false := beq_eq_false_iff_ne.mpr (by omega)
        have g2 : ((u : Int) == 0) = false := beq_eq_false_iff_ne.mpr (by omega)
        have g3 : decide (0 < (u : Int)) = true := decide_eq_true (by omega)
        have g3b : (0 < (u : Int)) = True := eq_true (by omega)
        have g3c : (0 < u) = True := eq_true (by omega)
        have h6 : (6 ≤ (t : Int)) = True := eq_true (by omega)
        obtain ⟨q0, hq0⟩ : ∃ q0 : UInt8, Q[0]? = some q0 := ⟨_, List.getElem?_eq_getElem hQp⟩
        have cellQ : ∀ k x, ((wr.drewN k).alloc x).cell? ⟨g, o5, none⟩ = some (.int .u8 (q0.toNat : Int)) := fun k x => by
          have h0 := bQ 0 hQp
          rw [numsB_getD _ _ hQp] at h0
          have h1 := pw_cell_below (BEL.out k x) h0
          rw [ho5, ho3]
          rw [Nat.add_zero] at h1
          rw [h1]
          rw [List.getElem?_eq_getElem hQp] at hq0
          rw [Option.some.inj hq0]
        have cv3 : ∀ k x, (convert 23 9 (.slice (some ⟨g, o5, none⟩) u c5)).run Tryd.prog ((wr.drewN k).alloc x) = .ok (.string ⟨Q.toArray⟩) ((wr.drewN k).alloc x) := fun k x => by
          rw [ho5, ho3]
          exact (bQ.below (BEL.out k x)).conv u c5 hu.symm
        have NN := Aside0.mk (And.intro hn (And.intro hnc hn9))
        clear hA2 bR bD bL hbt hm hn hDl hnc hn9 hat hpos bM bG bQ ht ho3 hc3 ho5 hc5 hu hLl hQp hG2p tM asM hD hL s1 s2 s2n s3 tQ hasc hnl hns
        rcases hq with ⟨hR, hq34⟩ | ⟨l, hQ, hpl, hl9, hR⟩
        · have hne := hq34 q0 hq0
          have n34 : ((q0.toNat : Int) == 34) = false := beq_eq_false_iff_ne.mpr (fun e => hne.1 (by apply UInt8.toNat_inj.1; simp; omega))
          have n96 : ((q0.toNat : Int) == 96) = false := beq_eq_false_iff_ne.mpr (fun e => hne.2 (by apply UInt8.toNat_inj.1; simp; omega))
          subst hR
          clear hne hq34 hq0
          go_wp2_with (first | (go_at_call 25; (first | (with_reducible refine (zz _).mono ?_) | (with_reducible refine (zz2 _).mono ?_)); rintro e w' ⟨rfl, ⟨nd, rfl⟩⟩))
          go_quiet (fail)
          go_wp2_with (first | (go_at_call 25; (first | (with_reducible refine (zz _).mono ?_) | (with_reducible refine (zz2 _).mono ?_)); rintro e w' ⟨rfl, ⟨nd, rfl⟩⟩) | (go_at_call 26; (first | (with_reducible refine (ts _).mono ?_) | (with_reducible refine (ts2 _).mono ?_)); rintro e w' ⟨rfl, rfl⟩) | (go_at_call 27; (with_reducible refine (hp _).mono ?_); rintro e w' ⟨rfl, rfl⟩))
          go_ret
          exact ⟨rfl, HB.out.trans ((BEL.out _ _).mono (by have := HB.out.size; omega))⟩
        · have n34 : ((q0.toNat : Int) == 34) = true := by
            rw [hQ] at hq0
            simp at hq0
            rw [← hq0]; rfl
          have uq : ∀ k x, Calls Tryd.prog 28 #[.string ⟨Q.toArray⟩] ((wr.drewN k).alloc x) fun e w' => e = .returned (.tuple #[.string R, .nilIface]) ∧ Below ((wr.drewN k).alloc x).heap.size ((wr.drewN k).alloc x) w' := fun k x => by
            rw [hR]
            exact Unquote_any ⟨Q.toArray⟩ l _ hQ hpl hl9 (tabs_below HUR.out (BEL.out k x))
          clear hq0 hQ hpl hl9 hR
          go_wp2_with (first | (go_at_call 25; (first | (with_reducible refine (zz _).mono ?_) | (with_reducible refine (zz2 _).mono ?_)); rintro e w' ⟨rfl, ⟨nd, rfl⟩⟩))
          go_quiet (fail)
          go_wp2_with (first | (go_at_call 25; (first | (with_reducible refine (zz _).mono ?_) | (with_reducible refine (zz2 _).mono ?_)); rintro e w' ⟨rfl, ⟨nd, rfl⟩⟩) | (go_at_call 26; (first | (with_reducible refine (ts _).mono ?_) | (with_reducible refine (ts2 _).mono ?_)); rintro e w' ⟨rfl, rfl⟩) | (go_at_call 27; (with_reducible refine (hp _).mono ?_); rintro e w' ⟨rfl, rfl⟩) | (go_at_call 28; (with_reducible refine (uq _ _).mono ?_); rintro e w' ⟨rfl, hbu⟩))
          go_ret
          exact ⟨rfl, (HB.out.trans ((BEL.out _ _).mono (by have := HB.out.size; omega))).trans (hbu.mono (by have := HB.out.size; simp; omega))⟩
end Go.Proofs.YtikgnlgmidbclaaDoor.Plain
