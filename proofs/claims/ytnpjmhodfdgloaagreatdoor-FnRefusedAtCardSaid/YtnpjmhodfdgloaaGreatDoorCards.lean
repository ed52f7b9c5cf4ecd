/-
  DERIVED. GIVEN WITH THE SEED: THE CARDS: each row of YtnpjmhodfdgloaaGreatDoorRows.lean that lists a variable, with what it lists TIED to the program's text (the seventh form; the later family's looks); each row that meets fmt, with fmt's text TOLD by the authors' own Lean function (tested against real Go, not proved from fmt's source: count such statements apart). THE CARD IS WHAT COUNTS. Prove the row's statement (the work); the ties are given (YtnpjmhodfdgloaaGreatDoorTie.lean); close each card by the builder's one call (the guide's Derived/Test/ToyasCard.lean, 'card_holds'). Laid BY PROGRAM, IN A SANDBOX (cutbox-door.mjs). By AI agents, Wed Nov 11 2026. No macro, syntax, notation, axiom, sorry.
-/
import Derived.Test.YtnpjmhodfdgloaaGreatDoorRows
import GoSem.ClaimSeven
namespace Go.Proofs.YtnpjmhodfdgloaaGreatDoor
namespace Rows

/-- THE TIED CARD OF 'laws.FnRefused'. -/
def fnRefusedCard : Claim7 := { stood := { row := fnRefusedRow, standIns := [], harness := (true, "526e7c361b93d6cc5d21b051f26f9bbe58ecf2e3f7e1e28feec27f003259bb9d"), looks := true }, kinds := [], alts := [], laidByText := true, laidKinds := [.data, .sentinel, .pinned], laidTests := true, laidLooks := .later }
def FnRefusedCardSaid : Prop := Claim7.holds Tryz.pinned (.plain (OpenSpec.ofChange fnRefusedSpec)) fnRefusedCard

/-- THE TIED CARD OF 'laws.FnRefusedAt'. -/
def fnRefusedAtCard : Claim7 := { stood := { row := fnRefusedAtRow, standIns := [], harness := (true, "526e7c361b93d6cc5d21b051f26f9bbe58ecf2e3f7e1e28feec27f003259bb9d"), looks := true }, kinds := [], alts := [], laidByText := true, laidKinds := [.data, .sentinel, .pinned], laidTests := true, laidLooks := .later }
def FnRefusedAtCardSaid : Prop := Claim7.holds Tryz.pinned (.plain (OpenSpec.ofChange fnRefusedAtSpec)) fnRefusedAtCard

/-- THE SECOND FORM's CARD OF 'laws.FnRefused'. -/
def fnRefusedUptoCard : Claim7 := { stood := { row := fnRefusedUptoRow, standIns := [], harness := (true, "526e7c361b93d6cc5d21b051f26f9bbe58ecf2e3f7e1e28feec27f003259bb9d"), looks := true }, kinds := [], alts := [], laidByText := true, laidKinds := [.data, .sentinel, .pinned], laidTests := true, laidLooks := .later }
def FnRefusedUptoCardSaid : Prop := Claim7.holds Tryz.pinned (.plain (OpenSpec.upto fnRefusedSpec)) fnRefusedUptoCard

/-- THE SECOND FORM's CARD OF 'laws.FnRefusedAt'. -/
def fnRefusedAtUptoCard : Claim7 := { stood := { row := fnRefusedAtUptoRow, standIns := [], harness := (true, "526e7c361b93d6cc5d21b051f26f9bbe58ecf2e3f7e1e28feec27f003259bb9d"), looks := true }, kinds := [], alts := [], laidByText := true, laidKinds := [.data, .sentinel, .pinned], laidTests := true, laidLooks := .later }
def FnRefusedAtUptoCardSaid : Prop := Claim7.holds Tryz.pinned (.plain (OpenSpec.upto fnRefusedAtSpec)) fnRefusedAtUptoCard
end Rows
end Go.Proofs.YtnpjmhodfdgloaaGreatDoor
