/-
  DERIVED. GIVEN WITH THE SEED: THE CARDS: each row of YtikgnlgmidbclaaDoorRows.lean that lists a variable, with what it lists TIED to the program's text (the seventh form; the later family's looks); each row that meets fmt, with fmt's text TOLD by the authors' own Lean function (tested against real Go, not proved from fmt's source: count such statements apart). THE CARD IS WHAT COUNTS. Prove the row's statement (the work); the ties are given (YtikgnlgmidbclaaDoorTie.lean); close each card by the builder's one call (the guide's Derived/Test/ToyasCard.lean, 'card_holds'). Laid BY PROGRAM, IN A SANDBOX (cutbox-door.mjs). By AI agents, Wed Nov 11 2026. No macro, syntax, notation, axiom, sorry.
-/
import Derived.Test.YtikgnlgmidbclaaDoorRows
import GoSem.ClaimSeven
namespace Go.Proofs.YtikgnlgmidbclaaDoor
namespace Rows

/-- THE TIED CARD OF 'laws.FnModulePath'. -/
def fnModulePathCard : Claim7 := { stood := { row := fnModulePathRow, standIns := [], harness := (true, "70ad5bd3451afd4ad0e642f29cd49dd308422a524b7ee268a52d6e6c150c6b80"), looks := false }, kinds := [], alts := [], laidByText := true, laidKinds := [.data, .sentinel, .listed, .data, .pinned], laidTests := true, laidLooks := .later }
def FnModulePathCardSaid : Prop := Claim7.holds Tryd.pinned (.plain (OpenSpec.ofChange fnModulePathSpec)) fnModulePathCard

/-- THE SECOND FORM's CARD OF 'laws.FnModulePath'. -/
def fnModulePathUptoCard : Claim7 := { stood := { row := fnModulePathUptoRow, standIns := [], harness := (true, "70ad5bd3451afd4ad0e642f29cd49dd308422a524b7ee268a52d6e6c150c6b80"), looks := false }, kinds := [], alts := [], laidByText := true, laidKinds := [.data, .sentinel, .listed, .data, .pinned], laidTests := true, laidLooks := .later }
def FnModulePathUptoCardSaid : Prop := Claim7.holds Tryd.pinned (.plain (OpenSpec.upto fnModulePathSpec)) fnModulePathUptoCard
end Rows
end Go.Proofs.YtikgnlgmidbclaaDoor
