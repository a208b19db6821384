/- The card of 'laws.FnModulePath': at every list of entries and every list of bytes the call returns true, and both arguments read as they read before. Conditions: none beyond the row's own (the five listed variables hold what the program's text lays in them). -/
import Derived.Test.YtikgnlgmidbclaaDoorCards
import Derived.Test.YtikgnlgmidbclaaDoorTie
import Derived.Test.YtikgnlgmidbclaaDoorN2
import Derived.WalkKit
import Derived.ProofKit
import Derived.OpenShut
import Derived.Deep.DeepHandedRow
import Derived.Deep.DeepWitnessRowRef
import Derived.Lib.LaidTab
import Derived.Lib.LaidU8
import Derived.Lib.LaidU8T
import Derived.SizedLaws
import Derived.Below
namespace Go.Proofs.YtikgnlgmidbclaaDoor.fnModulePath
open Go.ChangeShapes Go.WideShapes Go.ChangeAt Go.RowKit Go.Proofs.YtikgnlgmidbclaaDoor.Plain
set_option linter.unusedVariables false
theorem own : ownKnob Tryd.prog.godebug = none := by kernel_rfl
theorem laidOut : laidOutB Tryd.prog = true := by kernel_rfl
theorem gTab : Tryd.prog.globalNamed "bytes.asciiSpace" = some 0 := by kernel_rfl
theorem gTabType : (Tryd.prog.globals[0]?).map (·.type) = some 52 := by kernel_rfl
theorem cells52 : Tryd.prog.cellsOf 52 = 256 := by kernel_rfl
theorem cells5 : Tryd.prog.cellsOf 5 = 1 := by kernel_rfl
theorem isAscii : Rows.laid_bytes_asciiSpace (H := Unit) = Lib.tabData .u8 Lib.asciiSpaceTab := by kernel_rfl
theorem isFirst : Rows.laid_unicode_utf8_first = Lib.firstData := by kernel_rfl
theorem isAccept : Rows.laid_unicode_utf8_acceptRanges (H := Unit) = Lib.acceptData := by kernel_rfl
theorem tabIs_of_reads {W : World} (h : Lib.VarReads Tryd.prog W "bytes.asciiSpace" (Lib.tabData .u8 Lib.asciiSpaceTab)) : Lib.TabIs Tryd.prog W "bytes.asciiSpace" .u8 Lib.asciiSpaceTab := by
  obtain ⟨g', t', cs, fuel, p, hg', ht', hvar, hd⟩ := h
  obtain rfl := Option.some.inj (gTab.symm.trans hg')
  obtain rfl := Option.some.inj (gTabType.symm.trans ht')
  unfold Lib.TabIs
  rw [hvar, ← Lib.cells_of_tab Tryd.underlying52 Tryd.underlying5 cells5 cells52 hd]

/-- The witness' world: the settled one, three blocks more, the five variables laid. -/
noncomputable def laidWorld (os : Os) : World :=
  let N := (World.settled Tryd.prog os).heap.size
  let w0 := World.holding Tryd.prog os ⟨#[.cells (Lib.whiteT.map fun (z : Nat) => Value.int .u16 (z : Int)).toArray 73, .cells #[.slice (some ⟨N, 0, none⟩) 7 7, .slice none 0 0, .int .i64 2] 70,
    .cells #[.string ⟨#[105, 110, 118, 97, 108, 105, 100, 32, 115, 121, 110, 116, 97, 120]⟩] 106], #[], []⟩
  let put (h : Array Obj) (g : Nat) (cs : Array Value) : Array Obj := h.modify g fun
    | .cells _ t frozen => .cells cs t frozen
    | o => o
  let h1 := put w0.heap 0 (Lib.asciiSpaceTab.map fun z => Value.int .u8 z).toArray
  let h2 := put h1 3 (Lib.firstTab.map fun z => Value.int .u8 z).toArray
  let h3 := put h2 4 ((List.range 16).flatMap fun i => [Value.int .u8 (Lib.accLo i), Value.int .u8 (Lib.accHi i)]).toArray
  let h4 := put h3 2 #[.pointer (some ⟨N + 1, 0, none⟩)]
  let h5 := put h4 1 #[.iface 89 (.pointer (some ⟨N + 2, 0, none⟩))]
  { w0 with heap := h5 }
theorem laid_met (os : Os) : laidMet Tryd.prog Rows.fnModulePathRow.laid ((laidWorld os).forCall (fun _ _ => 0) ⟨#[], #[.slice none 0 0, .slice none 0 0], []⟩).memory :=
  laidMet_of_run' 10 (by kernel_rfl) (by kernel_rfl)
theorem reads (os : Os) {H : Type} (enc : TypeId × Value → H) : ∃ places, DataW.whole enc Tryd.prog ((laidWorld os).forCall (fun _ _ => 0) ⟨#[], #[.slice none 0 0, .slice none 0 0], []⟩).memory Tryd.f3.params.toList Rows.fnModulePathSpec.vars false #[Value.slice none 0 0, Value.slice none 0 0].toList 8 = some ([.nil, .nil], [], places) :=
  ⟨[], by kernel_rfl⟩

set_option maxRecDepth 100000 in
theorem lifted (os : Os) (started : os.Started) (H : Type) (enc : TypeId × Value → H) (F : Stop.Interp) :
    ReturnsInHanded {} Tryd.checked os 3 .any ((OpenSpec.ofChange Rows.fnModulePathSpec).preRow enc Tryd.prog Tryd.f3 Rows.fnModulePathRow.domain false Rows.fnModulePathRow.laid) (((OpenSpec.ofChange Rows.fnModulePathSpec).at F).post enc Tryd.prog Tryd.f3 false true false false) := by
  obtain ⟨places, hx⟩ := reads os enc
  refine returnsInHanded_of_row (C := Tryd.checked) (s := OpenSpec.ofChange Rows.fnModulePathSpec) own started (by kernel_rfl) Tryd.func3
    (witness_row_atRef (enc := enc) (C := Tryd.checked) false (laidWorld os) #[.slice none 0 0, .slice none 0 0] rfl (by kernel_rfl) (by kernel_rfl) (by kernel_rfl)
      (OpenSpec.preRow_of_cond 8 hx (by kernel_rfl) (fun k hk => by cases hk) (by kernel_rfl) (laid_met os))) ?_
  intro W base args ds gs before hval0 hW _ _ hsz0 hL _ _
  have hsz : (DataW.weightsEach Tryd.prog (Tryd.f3.params.toList ++ (OpenSpec.ofChange Rows.fnModulePathSpec).bare.plain.varTypes Tryd.prog) (ds ++ gs)).all (· ≤ reachBytes) = true := hsz0
  have hval : ∀ (j : Nat) t v, Tryd.f3.params[j]? = some t → args[j]? = some v → Value.okWide Tryd.prog W .any base t v := hval0
  have hW' := hW
  obtain ⟨p, q, hA0, hV, rfl, hfz, hnd⟩ := hW
  have hA : DataW.TrodAll enc Tryd.prog W 0 (fun _ => true) true Tryd.f3.params.toList args.toList ds p := hA0
  rw [Tryd.params3] at hA hval hsz
  obtain ⟨v0, v1, d0, d1, p0, p1, rfl, rfl, rfl, h0, h1⟩ := trodAll_two hA
  obtain ⟨rfl, rfl⟩ := trodVars_none hV
  obtain ⟨A0, l0, k0, rfl⟩ := okWide_slice Tryd.underlying22 (hval 0 22 v0 rfl rfl)
  obtain ⟨A1, l1, k1, rfl⟩ := okWide_slice Tryd.underlying23 (hval 1 23 v1 rfl rfl)
  have h0k := h0
  have h1k := h1
  obtain ⟨fuel0, hf0⟩ := h0
  obtain ⟨fuel1, hf1⟩ := h1
  clear hA0 hval0 hV
  simp only [List.append_nil] at hW' hsz
  have hlt : ∀ x ∈ p0 ++ p1, x.block < W.heap.size := fun x hx => by simpa using hW'.lt x hx
  have hw0 : ∀ n ∈ DataW.weights Tryd.prog 22 d0, n ≤ 140737488351232 := fun n hn => by
    have h := List.all_eq_true.1 hsz n (DataW.weights_mem_each (j := 0) (t := 22) rfl rfl n hn)
    exact of_decide_eq_true h
  obtain ⟨l, rfl, hC, hc, hs, hfl, hll⟩ := open_entries hf0 hw0
  obtain ⟨st, rfl, hC1, hc1, hst⟩ := open_style hf1
  have htab : Lib.TabIs Tryd.prog W "bytes.asciiSpace" .u8 Lib.asciiSpaceTab :=
    tabIs_of_reads (isAscii ▸ Lib.laidMet.reads hL (.tail _ (.tail _ (.tail _ (.head _)))))
  have hU : Lib.Utf8Tabs (Tryd.laysValid_ren.g 3) (Tryd.laysValid_ren.g 4) W :=
    utf8Tabs_of_readsT (U8Types.of196 Tryd.laysValid) ⟨by kernel_rfl, by kernel_rfl, by kernel_rfl, by kernel_rfl, by kernel_rfl, by kernel_rfl, by kernel_rfl⟩
      (isFirst ▸ Lib.laidMet.reads hL (.tail _ (.tail _ (.tail _ (.tail _ (.head _)))))) (isAccept ▸ Lib.laidMet.reads hL (.head _))
  refine (law_walk l A0 k0 st A1 k1 W hC hc hC1 hc1 hs hfl hll hst htab hU).mono fun e W' ⟨he, bel⟩ => ?_
  subst he
  refine ⟨_, rfl, _, _, _, [], p0 ++ p1, [], hW', ?_, ?_, rfl, bel.frame _, fun h => by cases h⟩
  · exact trodAll_mk1 (shut_bool Tryd.underlying4 _)
  · exact trodAll_mk2 (Below.trod laidOut (by kernel_rfl) (of_decide_eq_true (by kernel_rfl)) h0k bel (fun x hx => hlt x (by simp [hx]))) (Below.trod laidOut (by kernel_rfl) (of_decide_eq_true (by kernel_rfl)) h1k bel (fun x hx => hlt x (by simp [hx])))

theorem said : Rows.FnModulePathSaid :=
  OpenClaim.holds_of_cond 3 Tryd.f3 rfl rfl rfl rfl rfl rfl rfl ⟨rfl, rfl, rfl, rfl, rfl⟩ rfl rfl rfl rfl rfl (by kernel_rfl) Tryd.func3 (by kernel_rfl)
    (of_decide_eq_true (by kernel_rfl)) (by unfold Func.isWrapper; first | (rw [if_pos (by decide +kernel)]; kernel_rfl) | (rw [if_neg (by decide +kernel)]; exact ⟨rfl, rfl⟩))
    (fun os started H enc _ F => by rw [OpenClaim.pre_eq_preRow]; exact lifted os started H enc F)

theorem plain (f : FuncId) (fn : Func) (hf : Tryd.pinned.checked.prog.funcNamed "loop.example/pub-g03149/laws.FnModulePath" = some f) (hfn : Tryd.pinned.checked.prog.funcs[f]? = some fn) :
    false = Tryd.pinned.checked.prog.looks [] ∧ ∀ (j : Nat) t, fn.params[j]? = some t → Tryd.pinned.checked.prog.wantsStandIn t = false := by
  obtain rfl : f = 3 := Option.some.inj ((show Tryd.prog.funcNamed "loop.example/pub-g03149/laws.FnModulePath" = some 3 by kernel_rfl).symm.trans hf) |>.symm
  obtain rfl : fn = Tryd.f3 := (Option.some.inj (Tryd.func3.symm.trans hfn)).symm
  refine ⟨by kernel_rfl, fun j t ht => ?_⟩
  rw [Tryd.params3] at ht
  rcases (show t = 22 ∨ t = 23 by simpa using Array.mem_of_getElem? ht) with rfl | rfl
  · exact (show Tryd.prog.wantsStandIn 22 = false by kernel_rfl)
  · exact (show Tryd.prog.wantsStandIn 23 = false by kernel_rfl)

theorem card : Rows.FnModulePathCardSaid :=
  Claim7.holds_tied_plain_at .later [] _ _ _ _ said (fun _ h => by cases h) (by kernel_rfl) (fun _ h => by cases h) fnModulePath_row_tie rfl ⟨rfl, rfl⟩ (by kernel_rfl) rfl plain (by kernel_rfl)
#print axioms card
end Go.Proofs.YtikgnlgmidbclaaDoor.fnModulePath
namespace Go.Proofs.YtikgnlgmidbclaaDoor
/-- The card, under a short name, for the claim. -/
theorem fnModulePath_card_holds : Rows.FnModulePathCardSaid := fnModulePath.card
end Go.Proofs.YtikgnlgmidbclaaDoor
