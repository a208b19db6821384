/- The contracts of spec.pathOk, wordOk, goOk, dirOk and versionOk: each answers one bool of its arguments and leaves memory alone. Condition: strings of at most 2^47 - 4096 bytes. -/
import Derived.Test.YtikgnlgmidbclaaDoorV2
namespace Go.Proofs.YtikgnlgmidbclaaDoor.Plain
set_option linter.unusedVariables false
set_option linter.unusedSimpArgs false
open Go.RowKit Go.Proofs.YtikgnlgmidbclaaDoor.PFnModulePath Go.Proofs.YtikgnlgmidbclaaDoorW.PrintWords

noncomputable def pathB (s : ByteArray) : Bool := theB fun k => spec_pathOk.f k s
noncomputable def wordB (s : ByteArray) : Bool := theB fun k => spec_wordOk.f k s
noncomputable def goB (s : ByteArray) : Bool := theB fun k => spec_goOk.f k s
noncomputable def dirB (s : ByteArray) : Bool := theB fun k => spec_dirOk.f k s
noncomputable def verB (p s : ByteArray) : Bool := theB fun k => spec_versionOk.f k p s

theorem path_calls (s : ByteArray) (hs : s.size ≤ 140737488351232) (w : World) : Calls Tryd.prog 20 #[.string s] w fun e w' => e = .returned (.bool (pathB s)) ∧ Drawn0 w w' := by
  obtain ⟨_, k, h⟩ := theB_of (path_ev s hs)
  exact spec_pathOk.calls k s _ w h
theorem word_calls (s : ByteArray) (hs : s.size ≤ 140737488351232) (w : World) : Calls Tryd.prog 22 #[.string s] w fun e w' => e = .returned (.bool (wordB s)) ∧ Drawn0 w w' := by
  obtain ⟨_, k, h⟩ := theB_of (word_ev s hs)
  exact spec_wordOk.calls k s _ w h
theorem go_calls (s : ByteArray) (hs : s.size ≤ 140737488351232) (w : World) : Calls Tryd.prog 21 #[.string s] w fun e w' => e = .returned (.bool (goB s)) ∧ Drawn0 w w' := by
  obtain ⟨_, k, h⟩ := theB_of (go_ev s hs)
  exact spec_goOk.calls k s _ w h
theorem dir_calls (s : ByteArray) (hs : s.size ≤ 140737488351232) (w : World) : Calls Tryd.prog 23 #[.string s] w fun e w' => e = .returned (.bool (dirB s)) ∧ Drawn0 w w' := by
  obtain ⟨_, k, h⟩ := theB_of (dir_ev s hs)
  exact spec_dirOk.calls k s _ w h
theorem ver_calls (p s : ByteArray) (hp : p.size ≤ 140737488351232) (w : World) : Calls Tryd.prog 11 #[.string p, .string s] w fun e w' => e = .returned (.bool (verB p s)) ∧ Drawn0 w w' := by
  obtain ⟨_, k, h⟩ := theB_of (ver_ev p s hp)
  exact spec_versionOk.calls k p s _ w h

theorem path_is {s : ByteArray} {b : Bool} (hs : s.size ≤ 140737488351232) (h : pathB s = b) (w : World) : Calls Tryd.prog 20 #[.string s] w fun e w' => e = .returned (.bool b) ∧ Drawn0 w w' := h ▸ path_calls s hs w
theorem path_quiet {s : ByteArray} {b : Bool} (hs : s.size ≤ 140737488351232) (h : pathB s = b) (w : World) (n : Nat) : Calls Tryd.prog 20 #[.string s] (w.drewN n) fun e w'' => e = .returned (.bool b) ∧ ∃ m, w'' = w.drewN m :=
  Calls.quiet_of ((path_is hs h _).mono fun _ _ h => ⟨h.1, h.2.out⟩)
theorem word_is {s : ByteArray} {b : Bool} (hs : s.size ≤ 140737488351232) (h : wordB s = b) (w : World) : Calls Tryd.prog 22 #[.string s] w fun e w' => e = .returned (.bool b) ∧ Drawn0 w w' := h ▸ word_calls s hs w
theorem word_quiet {s : ByteArray} {b : Bool} (hs : s.size ≤ 140737488351232) (h : wordB s = b) (w : World) (n : Nat) : Calls Tryd.prog 22 #[.string s] (w.drewN n) fun e w'' => e = .returned (.bool b) ∧ ∃ m, w'' = w.drewN m :=
  Calls.quiet_of ((word_is hs h _).mono fun _ _ h => ⟨h.1, h.2.out⟩)
theorem go_is {s : ByteArray} {b : Bool} (hs : s.size ≤ 140737488351232) (h : goB s = b) (w : World) : Calls Tryd.prog 21 #[.string s] w fun e w' => e = .returned (.bool b) ∧ Drawn0 w w' := h ▸ go_calls s hs w
theorem go_quiet {s : ByteArray} {b : Bool} (hs : s.size ≤ 140737488351232) (h : goB s = b) (w : World) (n : Nat) : Calls Tryd.prog 21 #[.string s] (w.drewN n) fun e w'' => e = .returned (.bool b) ∧ ∃ m, w'' = w.drewN m :=
  Calls.quiet_of ((go_is hs h _).mono fun _ _ h => ⟨h.1, h.2.out⟩)
theorem dir_is {s : ByteArray} {b : Bool} (hs : s.size ≤ 140737488351232) (h : dirB s = b) (w : World) : Calls Tryd.prog 23 #[.string s] w fun e w' => e = .returned (.bool b) ∧ Drawn0 w w' := h ▸ dir_calls s hs w
theorem dir_quiet {s : ByteArray} {b : Bool} (hs : s.size ≤ 140737488351232) (h : dirB s = b) (w : World) (n : Nat) : Calls Tryd.prog 23 #[.string s] (w.drewN n) fun e w'' => e = .returned (.bool b) ∧ ∃ m, w'' = w.drewN m :=
  Calls.quiet_of ((dir_is hs h _).mono fun _ _ h => ⟨h.1, h.2.out⟩)
theorem ver_is {p s : ByteArray} {b : Bool} (hs : p.size ≤ 140737488351232) (h : verB p s = b) (w : World) : Calls Tryd.prog 11 #[.string p, .string s] w fun e w' => e = .returned (.bool b) ∧ Drawn0 w w' := h ▸ ver_calls p s hs w
theorem ver_quiet {p s : ByteArray} {b : Bool} (hs : p.size ≤ 140737488351232) (h : verB p s = b) (w : World) (n : Nat) : Calls Tryd.prog 11 #[.string p, .string s] (w.drewN n) fun e w'' => e = .returned (.bool b) ∧ ∃ m, w'' = w.drewN m :=
  Calls.quiet_of ((ver_is hs h _).mono fun _ _ h => ⟨h.1, h.2.out⟩)

theorem pathB_good {s : ByteArray} (hs : s.size ≤ 140737488351232) (h : pathB s = true) : PathGood s := (theB_of (path_ev s hs)).1 h
theorem wordB_size {s : ByteArray} (hs : s.size ≤ 140737488351232) (h : wordB s = true) : s.size ≤ 12 := ((theB_of (word_ev s hs)).1 h).1
theorem goB_size {s : ByteArray} (hs : s.size ≤ 140737488351232) (h : goB s = true) : s.size ≤ 6 := (theB_of (go_ev s hs)).1 h
theorem dirB_size {s : ByteArray} (hs : s.size ≤ 140737488351232) (h : dirB s = true) : s.size ≤ 15 := (theB_of (dir_ev s hs)).1 h
theorem verB_size {p s : ByteArray} (hp : p.size ≤ 140737488351232) (h : verB p s = true) : s.size ≤ 20 := (theB_of (ver_ev p s hp)).1 h

/-- a toolchain's name -/
noncomputable def toolB (a : ByteArray) : Bool := (a.toList == ([100, 101, 102, 97, 117, 108, 116] : List UInt8)) || (decide (2 < (a.size : Int)) && ((a.extract 0 2).toList == ([103, 111] : List UInt8)) && goB (a.extract 2 a.size))
/-- a replacement's fields -/
noncomputable def replB (a b c d : ByteArray) : Bool := pathB a && ((b.toList == ([] : List UInt8)) || verB a b) && ((dirB c && (d.toList == ([] : List UInt8))) || (pathB c && verB c d))
/-- what is retracted -/
noncomputable def retrB (a b c : ByteArray) : Bool := (c.toList == ([] : List UInt8)) && verB ⟨#[]⟩ a && verB ⟨#[]⟩ b
/-- What a slice of strings of known length reads as. -/
theorem fields1 {w : World} {A : Option Addr} {a : ByteArray} (h : Kd.C Kd.string w A [a].length [a]) : ∃ ad, A = some ad ∧ w.cell? ad = some (.string a) := by
  obtain ⟨ad, e, h0⟩ := Kd.at_string h 0 (by omega) (by simp; try omega)
  rw [show ((0 : Int)).toNat = 0 from rfl, Addr.add_zero'] at h0
  exact ⟨ad, e, h0⟩
theorem field_at {w : World} {A : Option Addr} {fs : List ByteArray} (h : Kd.C Kd.string w A fs.length fs) {ad : Addr} (e : A = some ad) (i : Nat) (hi : i + 1 < fs.length) :
    w.cell? ⟨ad.block, ad.off + (i + 1), none⟩ = some (.string (fs.getD (i + 1) ByteArray.empty)) := by
  obtain ⟨ad', e', h0⟩ := Kd.at_string h ((i + 1 : Nat) : Int) (by omega) (by omega)
  rw [e] at e'
  injection e' with e'
  subst e'
  rw [Int.toNat_natCast] at h0
  unfold Addr.add at h0
  rw [if_neg (by omega)] at h0
  exact h0
theorem fields2 {w : World} {A : Option Addr} {a b : ByteArray} (h : Kd.C Kd.string w A [a, b].length [a, b]) : ∃ ad, A = some ad ∧ w.cell? ad = some (.string a) ∧ w.cell? ⟨ad.block, ad.off + 1, none⟩ = some (.string b) := by
  obtain ⟨ad, e, h0⟩ := Kd.at_string h 0 (by omega) (by simp; try omega)
  rw [show ((0 : Int)).toNat = 0 from rfl, Addr.add_zero'] at h0
  exact ⟨ad, e, h0, field_at h e 0 (by simp)⟩
theorem fields3 {w : World} {A : Option Addr} {a b c : ByteArray} (h : Kd.C Kd.string w A [a, b, c].length [a, b, c]) : ∃ ad, A = some ad ∧ w.cell? ad = some (.string a) ∧ w.cell? ⟨ad.block, ad.off + 1, none⟩ = some (.string b) ∧ w.cell? ⟨ad.block, ad.off + 2, none⟩ = some (.string c) := by
  obtain ⟨ad, e, h0⟩ := Kd.at_string h 0 (by omega) (by simp; try omega)
  rw [show ((0 : Int)).toNat = 0 from rfl, Addr.add_zero'] at h0
  exact ⟨ad, e, h0, field_at h e 0 (by simp), field_at h e 1 (by simp)⟩
theorem fields4 {w : World} {A : Option Addr} {a b c d : ByteArray} (h : Kd.C Kd.string w A [a, b, c, d].length [a, b, c, d]) : ∃ ad, A = some ad ∧ w.cell? ad = some (.string a) ∧ w.cell? ⟨ad.block, ad.off + 1, none⟩ = some (.string b) ∧ w.cell? ⟨ad.block, ad.off + 2, none⟩ = some (.string c) ∧ w.cell? ⟨ad.block, ad.off + 3, none⟩ = some (.string d) := by
  obtain ⟨ad, e, h0⟩ := Kd.at_string h 0 (by omega) (by simp; try omega)
  rw [show ((0 : Int)).toNat = 0 from rfl, Addr.add_zero'] at h0
  exact ⟨ad, e, h0, field_at h e 0 (by simp), field_at h e 1 (by simp), field_at h e 2 (by simp)⟩
end Go.Proofs.YtikgnlgmidbclaaDoor.Plain
