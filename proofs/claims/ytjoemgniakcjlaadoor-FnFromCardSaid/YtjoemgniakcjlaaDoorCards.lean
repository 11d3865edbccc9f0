/-
  DERIVED. GIVEN WITH THE SEED: THE CARDS: each row of YtjoemgniakcjlaaDoorRows.lean that lists a variable, with what it lists TIED to the program's text (the seventh form; the later family's looks); each row that meets fmt, with fmt's text TOLD by the authors' own Lean function (tested against real Go, not proved from fmt's source: count such statements apart). THE CARD IS WHAT COUNTS. Prove the row's statement (the work); the ties are given (YtjoemgniakcjlaaDoorTie.lean); close each card by the builder's one call (the guide's Derived/Test/ToyasCard.lean, 'card_holds'). Laid BY PROGRAM, IN A SANDBOX (cutbox-door.mjs). By AI agents, Wed Nov 11 2026. No macro, syntax, notation, axiom, sorry.
-/
import Derived.Test.YtjoemgniakcjlaaDoorRows
import GoSem.ClaimSeven
namespace Go.Proofs.YtjoemgniakcjlaaDoor
namespace Rows

/-- THE TIED CARD OF 'laws.FnVersion'. -/
def fnVersionCard : Claim7 := { stood := { row := fnVersionRow, standIns := [], harness := (true, "8193fe5804fbfca299ca390eb5f153d7e0ca446bbc6e6567e6e4c347fe7e7d69"), looks := true }, kinds := [], alts := [], laidByText := true, laidKinds := [.data, .data, .data, .sentinel, .sentinel], laidTests := true, laidLooks := .later }
def FnVersionCardSaid : Prop := Claim7.holds Tryd.pinned (.plain (OpenSpec.ofChange fnVersionSpec)) fnVersionCard

/-- THE TIED CARD OF 'laws.FnGreater'. -/
def fnGreaterCard : Claim7 := { stood := { row := fnGreaterRow, standIns := [], harness := (true, "8193fe5804fbfca299ca390eb5f153d7e0ca446bbc6e6567e6e4c347fe7e7d69"), looks := true }, kinds := [], alts := [], laidByText := true, laidKinds := [.data, .data, .data, .sentinel, .sentinel], laidTests := true, laidLooks := .later }
def FnGreaterCardSaid : Prop := Claim7.holds Tryd.pinned (.plain (OpenSpec.ofChange fnGreaterSpec)) fnGreaterCard

/-- THE TIED CARD OF 'laws.FnFrom'. -/
def fnFromCard : Claim7 := { stood := { row := fnFromRow, standIns := [], harness := (true, "8193fe5804fbfca299ca390eb5f153d7e0ca446bbc6e6567e6e4c347fe7e7d69"), looks := true }, kinds := [], alts := [], laidByText := true, laidKinds := [.data, .data, .data, .sentinel, .sentinel], laidTests := true, laidLooks := .later }
def FnFromCardSaid : Prop := Claim7.holds Tryd.pinned (.plain (OpenSpec.ofChange fnFromSpec)) fnFromCard

/-- THE SECOND FORM's CARD OF 'laws.FnVersion'. -/
def fnVersionUptoCard : Claim7 := { stood := { row := fnVersionUptoRow, standIns := [], harness := (true, "8193fe5804fbfca299ca390eb5f153d7e0ca446bbc6e6567e6e4c347fe7e7d69"), looks := true }, kinds := [], alts := [], laidByText := true, laidKinds := [.data, .data, .data, .sentinel, .sentinel], laidTests := true, laidLooks := .later }
def FnVersionUptoCardSaid : Prop := Claim7.holds Tryd.pinned (.plain (OpenSpec.upto fnVersionSpec)) fnVersionUptoCard

/-- THE SECOND FORM's CARD OF 'laws.FnGreater'. -/
def fnGreaterUptoCard : Claim7 := { stood := { row := fnGreaterUptoRow, standIns := [], harness := (true, "8193fe5804fbfca299ca390eb5f153d7e0ca446bbc6e6567e6e4c347fe7e7d69"), looks := true }, kinds := [], alts := [], laidByText := true, laidKinds := [.data, .data, .data, .sentinel, .sentinel], laidTests := true, laidLooks := .later }
def FnGreaterUptoCardSaid : Prop := Claim7.holds Tryd.pinned (.plain (OpenSpec.upto fnGreaterSpec)) fnGreaterUptoCard

/-- THE SECOND FORM's CARD OF 'laws.FnFrom'. -/
def fnFromUptoCard : Claim7 := { stood := { row := fnFromUptoRow, standIns := [], harness := (true, "8193fe5804fbfca299ca390eb5f153d7e0ca446bbc6e6567e6e4c347fe7e7d69"), looks := true }, kinds := [], alts := [], laidByText := true, laidKinds := [.data, .data, .data, .sentinel, .sentinel], laidTests := true, laidLooks := .later }
def FnFromUptoCardSaid : Prop := Claim7.holds Tryd.pinned (.plain (OpenSpec.upto fnFromSpec)) fnFromUptoCard
end Rows
end Go.Proofs.YtjoemgniakcjlaaDoor
