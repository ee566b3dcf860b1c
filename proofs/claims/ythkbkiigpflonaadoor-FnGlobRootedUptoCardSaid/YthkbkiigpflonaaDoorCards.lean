/-
  DERIVED. GIVEN WITH THE SEED: THE CARDS: each row of YthkbkiigpflonaaDoorRows.lean that lists a variable, with what it lists TIED to the program's text (the seventh form; the later family's looks); each row that meets fmt, with fmt's text TOLD by the authors' own Lean function (tested against real Go, not proved from fmt's source: count such statements apart). THE CARD IS WHAT COUNTS. Prove the row's statement (the work); the ties are given (YthkbkiigpflonaaDoorTie.lean); close each card by the builder's one call (the guide's Derived/Test/ToyasCard.lean, 'card_holds'). Laid BY PROGRAM, IN A SANDBOX (cutbox-door.mjs). By AI agents, Wed Nov 11 2026. No macro, syntax, notation, axiom, sorry.
-/
import Derived.Test.YthkbkiigpflonaaDoorRows
import GoSem.ClaimSeven
namespace Go.Proofs.YthkbkiigpflonaaDoor
namespace Rows

/-- THE TIED CARD OF 'laws.FnGlobNothing'. -/
def fnGlobNothingCard : Claim7 := { stood := { row := fnGlobNothingRow, standIns := [], harness := (true, "1de13f92e2e6e80409c17c4091a326124d81cfa3babd3823bf868a363ca37433"), looks := false }, kinds := [], alts := [], laidByText := true, laidKinds := [.sentinel], laidTests := true, laidLooks := .later }
def FnGlobNothingCardSaid : Prop := Claim7.holds Tryd.pinned (.plain (OpenSpec.ofChange fnGlobNothingSpec)) fnGlobNothingCard

/-- THE TIED CARD OF 'laws.FnGlobRooted'. -/
def fnGlobRootedCard : Claim7 := { stood := { row := fnGlobRootedRow, standIns := [], harness := (true, "1de13f92e2e6e80409c17c4091a326124d81cfa3babd3823bf868a363ca37433"), looks := false }, kinds := [], alts := [], laidByText := true, laidKinds := [.data, .sentinel, .pinned], laidTests := true, laidLooks := .later }
def FnGlobRootedCardSaid : Prop := Claim7.holds Tryd.pinned (.plain (OpenSpec.ofChange fnGlobRootedSpec)) fnGlobRootedCard

/-- THE SECOND FORM's CARD OF 'laws.FnGlobNothing'. -/
def fnGlobNothingUptoCard : Claim7 := { stood := { row := fnGlobNothingUptoRow, standIns := [], harness := (true, "1de13f92e2e6e80409c17c4091a326124d81cfa3babd3823bf868a363ca37433"), looks := false }, kinds := [], alts := [], laidByText := true, laidKinds := [.sentinel], laidTests := true, laidLooks := .later }
def FnGlobNothingUptoCardSaid : Prop := Claim7.holds Tryd.pinned (.plain (OpenSpec.upto fnGlobNothingSpec)) fnGlobNothingUptoCard

/-- THE SECOND FORM's CARD OF 'laws.FnGlobRooted'. -/
def fnGlobRootedUptoCard : Claim7 := { stood := { row := fnGlobRootedUptoRow, standIns := [], harness := (true, "1de13f92e2e6e80409c17c4091a326124d81cfa3babd3823bf868a363ca37433"), looks := false }, kinds := [], alts := [], laidByText := true, laidKinds := [.data, .sentinel, .pinned], laidTests := true, laidLooks := .later }
def FnGlobRootedUptoCardSaid : Prop := Claim7.holds Tryd.pinned (.plain (OpenSpec.upto fnGlobRootedSpec)) fnGlobRootedUptoCard
end Rows
end Go.Proofs.YthkbkiigpflonaaDoor
