/-
  DERIVED. GIVEN WITH THE SEED: THE CARDS: each row of YtnehofekgnbelaaGreatDoorRows.lean that lists a variable, with what it lists TIED to the program's text (the seventh form; the later family's looks); each row that meets fmt, with fmt's text TOLD by the authors' own Lean function (tested against real Go, not proved from fmt's source: count such statements apart). THE CARD IS WHAT COUNTS. Prove the row's statement (the work); the ties are given (YtnehofekgnbelaaGreatDoorTie.lean); close each card by the builder's one call (the guide's Derived/Test/ToyasCard.lean, 'card_holds'). Laid BY PROGRAM, IN A SANDBOX (cutbox-door.mjs). By AI agents, Wed Nov 11 2026. No macro, syntax, notation, axiom, sorry.
-/
import Derived.Test.YtnehofekgnbelaaGreatDoorRows
import GoSem.ClaimSeven
namespace Go.Proofs.YtnehofekgnbelaaGreatDoor
namespace Rows

/-- THE TIED CARD OF 'laws.FnCanonical'. -/
def fnCanonicalCard : Claim7 := { stood := { row := fnCanonicalRow, standIns := [], harness := (true, "cdf5dd1a9a12420993daf8d664a35f7ccc6d549fc9fa4a81f7b2125592d7b1f8"), looks := false }, kinds := [], alts := [], laidByText := true, laidKinds := [.data, .data, .data], laidTests := true, laidLooks := .later }
def FnCanonicalCardSaid : Prop := Claim7.holds Tryz.pinned (.plain (OpenSpec.ofChange fnCanonicalSpec)) fnCanonicalCard

/-- THE TIED CARD OF 'laws.FnAllocate'. -/
def fnAllocateCard : Claim7 := { stood := { row := fnAllocateRow, standIns := [], harness := (true, "cdf5dd1a9a12420993daf8d664a35f7ccc6d549fc9fa4a81f7b2125592d7b1f8"), looks := false }, kinds := [], alts := [], laidByText := true, laidKinds := [.data, .data, .data], laidTests := true, laidLooks := .later }
def FnAllocateCardSaid : Prop := Claim7.holds Tryz.pinned (.plain (OpenSpec.ofChange fnAllocateSpec)) fnAllocateCard

/-- THE TIED CARD OF 'laws.FnExhausted'. -/
def fnExhaustedCard : Claim7 := { stood := { row := fnExhaustedRow, standIns := [], harness := (true, "cdf5dd1a9a12420993daf8d664a35f7ccc6d549fc9fa4a81f7b2125592d7b1f8"), looks := false }, kinds := [], alts := [], laidByText := true, laidKinds := [.data, .data, .data], laidTests := true, laidLooks := .later }
def FnExhaustedCardSaid : Prop := Claim7.holds Tryz.pinned (.plain (OpenSpec.ofChange fnExhaustedSpec)) fnExhaustedCard

/-- THE TIED CARD OF 'laws.FnOnce'. -/
def fnOnceCard : Claim7 := { stood := { row := fnOnceRow, standIns := [], harness := (true, "cdf5dd1a9a12420993daf8d664a35f7ccc6d549fc9fa4a81f7b2125592d7b1f8"), looks := false }, kinds := [], alts := [], laidByText := true, laidKinds := [.data, .data, .data], laidTests := true, laidLooks := .later }
def FnOnceCardSaid : Prop := Claim7.holds Tryz.pinned (.plain (OpenSpec.ofChange fnOnceSpec)) fnOnceCard

/-- THE TIED CARD OF 'laws.FnRound'. -/
def fnRoundCard : Claim7 := { stood := { row := fnRoundRow, standIns := [], harness := (true, "cdf5dd1a9a12420993daf8d664a35f7ccc6d549fc9fa4a81f7b2125592d7b1f8"), looks := false }, kinds := [], alts := [], laidByText := true, laidKinds := [.data, .data, .data], laidTests := true, laidLooks := .later }
def FnRoundCardSaid : Prop := Claim7.holds Tryz.pinned (.plain (OpenSpec.ofChange fnRoundSpec)) fnRoundCard

/-- THE SECOND FORM's CARD OF 'laws.FnCanonical'. -/
def fnCanonicalUptoCard : Claim7 := { stood := { row := fnCanonicalUptoRow, standIns := [], harness := (true, "cdf5dd1a9a12420993daf8d664a35f7ccc6d549fc9fa4a81f7b2125592d7b1f8"), looks := false }, kinds := [], alts := [], laidByText := true, laidKinds := [.data, .data, .data], laidTests := true, laidLooks := .later }
def FnCanonicalUptoCardSaid : Prop := Claim7.holds Tryz.pinned (.plain (OpenSpec.upto fnCanonicalSpec)) fnCanonicalUptoCard

/-- THE SECOND FORM's CARD OF 'laws.FnAllocate'. -/
def fnAllocateUptoCard : Claim7 := { stood := { row := fnAllocateUptoRow, standIns := [], harness := (true, "cdf5dd1a9a12420993daf8d664a35f7ccc6d549fc9fa4a81f7b2125592d7b1f8"), looks := false }, kinds := [], alts := [], laidByText := true, laidKinds := [.data, .data, .data], laidTests := true, laidLooks := .later }
def FnAllocateUptoCardSaid : Prop := Claim7.holds Tryz.pinned (.plain (OpenSpec.upto fnAllocateSpec)) fnAllocateUptoCard

/-- THE SECOND FORM's CARD OF 'laws.FnExhausted'. -/
def fnExhaustedUptoCard : Claim7 := { stood := { row := fnExhaustedUptoRow, standIns := [], harness := (true, "cdf5dd1a9a12420993daf8d664a35f7ccc6d549fc9fa4a81f7b2125592d7b1f8"), looks := false }, kinds := [], alts := [], laidByText := true, laidKinds := [.data, .data, .data], laidTests := true, laidLooks := .later }
def FnExhaustedUptoCardSaid : Prop := Claim7.holds Tryz.pinned (.plain (OpenSpec.upto fnExhaustedSpec)) fnExhaustedUptoCard

/-- THE SECOND FORM's CARD OF 'laws.FnOnce'. -/
def fnOnceUptoCard : Claim7 := { stood := { row := fnOnceUptoRow, standIns := [], harness := (true, "cdf5dd1a9a12420993daf8d664a35f7ccc6d549fc9fa4a81f7b2125592d7b1f8"), looks := false }, kinds := [], alts := [], laidByText := true, laidKinds := [.data, .data, .data], laidTests := true, laidLooks := .later }
def FnOnceUptoCardSaid : Prop := Claim7.holds Tryz.pinned (.plain (OpenSpec.upto fnOnceSpec)) fnOnceUptoCard

/-- THE SECOND FORM's CARD OF 'laws.FnRound'. -/
def fnRoundUptoCard : Claim7 := { stood := { row := fnRoundUptoRow, standIns := [], harness := (true, "cdf5dd1a9a12420993daf8d664a35f7ccc6d549fc9fa4a81f7b2125592d7b1f8"), looks := false }, kinds := [], alts := [], laidByText := true, laidKinds := [.data, .data, .data], laidTests := true, laidLooks := .later }
def FnRoundUptoCardSaid : Prop := Claim7.holds Tryz.pinned (.plain (OpenSpec.upto fnRoundSpec)) fnRoundUptoCard
end Rows
end Go.Proofs.YtnehofekgnbelaaGreatDoor
