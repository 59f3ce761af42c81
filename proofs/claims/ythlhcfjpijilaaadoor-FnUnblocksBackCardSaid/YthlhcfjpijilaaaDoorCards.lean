/-
  DERIVED. GIVEN WITH THE SEED: THE CARDS: each row of YthlhcfjpijilaaaDoorRows.lean that lists a variable, with what it lists TIED to the program's text (the seventh form; the later family's looks); each row that meets fmt, with fmt's text TOLD by the authors' own Lean function (tested against real Go, not proved from fmt's source: count such statements apart). THE CARD IS WHAT COUNTS. Prove the row's statement (the work); the ties are given (YthlhcfjpijilaaaDoorTie.lean); close each card by the builder's one call (the guide's Derived/Test/ToyasCard.lean, 'card_holds'). Laid BY PROGRAM, IN A SANDBOX (cutbox-door.mjs). By AI agents, Wed Nov 11 2026. No macro, syntax, notation, axiom, sorry.
-/
import Derived.Test.YthlhcfjpijilaaaDoorRows
import GoSem.ClaimSeven
namespace Go.Proofs.YthlhcfjpijilaaaDoor
namespace Rows

/-- THE TIED CARD OF 'laws.FnUninterlace'. -/
def fnUninterlaceCard : Claim7 := { stood := { row := fnUninterlaceRow, standIns := [], harness := (true, "feefa8ffa49d1a794f7837d478042f8dc1b2a04a9f4313563513e121db3983f0"), looks := true }, kinds := [], alts := [], laidByText := true, laidKinds := [.data], laidTests := true, laidLooks := .later }
def FnUninterlaceCardSaid : Prop := Claim7.holds Tryd.pinned (.plain (OpenSpec.ofChange fnUninterlaceSpec)) fnUninterlaceCard

/-- THE TIED CARD OF 'laws.FnUninterlaceBack'. -/
def fnUninterlaceBackCard : Claim7 := { stood := { row := fnUninterlaceBackRow, standIns := [], harness := (true, "feefa8ffa49d1a794f7837d478042f8dc1b2a04a9f4313563513e121db3983f0"), looks := true }, kinds := [], alts := [], laidByText := true, laidKinds := [.data], laidTests := true, laidLooks := .later }
def FnUninterlaceBackCardSaid : Prop := Claim7.holds Tryd.pinned (.plain (OpenSpec.ofChange fnUninterlaceBackSpec)) fnUninterlaceBackCard

/-- THE TIED CARD OF 'laws.FnReadTable'. -/
def fnReadTableCard : Claim7 := { stood := { row := fnReadTableRow, standIns := [], harness := (true, "feefa8ffa49d1a794f7837d478042f8dc1b2a04a9f4313563513e121db3983f0"), looks := true }, kinds := [], alts := [], laidByText := true, laidKinds := [.sentinel, .sentinel, .sentinel], laidTests := true, laidLooks := .later }
def FnReadTableCardSaid : Prop := Claim7.holds Tryd.pinned (.plain (OpenSpec.ofChange fnReadTableSpec)) fnReadTableCard

/-- THE TIED CARD OF 'laws.FnUnblocks'. -/
def fnUnblocksCard : Claim7 := { stood := { row := fnUnblocksRow, standIns := [], harness := (true, "feefa8ffa49d1a794f7837d478042f8dc1b2a04a9f4313563513e121db3983f0"), looks := true }, kinds := [], alts := [], laidByText := true, laidKinds := [.sentinel, .sentinel, .sentinel, .sentinel], laidTests := true, laidLooks := .later }
def FnUnblocksCardSaid : Prop := Claim7.holds Tryd.pinned (.plain (OpenSpec.ofChange fnUnblocksSpec)) fnUnblocksCard

/-- THE TIED CARD OF 'laws.FnUnblocksBack'. -/
def fnUnblocksBackCard : Claim7 := { stood := { row := fnUnblocksBackRow, standIns := [], harness := (true, "feefa8ffa49d1a794f7837d478042f8dc1b2a04a9f4313563513e121db3983f0"), looks := true }, kinds := [], alts := [], laidByText := true, laidKinds := [.sentinel, .sentinel, .sentinel, .sentinel], laidTests := true, laidLooks := .later }
def FnUnblocksBackCardSaid : Prop := Claim7.holds Tryd.pinned (.plain (OpenSpec.ofChange fnUnblocksBackSpec)) fnUnblocksBackCard

/-- THE TIED CARD OF 'laws.FnTableBack'. -/
def fnTableBackCard : Claim7 := { stood := { row := fnTableBackRow, standIns := [], harness := (true, "feefa8ffa49d1a794f7837d478042f8dc1b2a04a9f4313563513e121db3983f0"), looks := true }, kinds := [], alts := [], laidByText := true, laidKinds := [.sentinel, .sentinel, .sentinel], laidTests := true, laidLooks := .later }
def FnTableBackCardSaid : Prop := Claim7.holds Tryd.pinned (.plain (OpenSpec.ofChange fnTableBackSpec)) fnTableBackCard

/-- THE SECOND FORM's CARD OF 'laws.FnUninterlace'. -/
def fnUninterlaceUptoCard : Claim7 := { stood := { row := fnUninterlaceUptoRow, standIns := [], harness := (true, "feefa8ffa49d1a794f7837d478042f8dc1b2a04a9f4313563513e121db3983f0"), looks := true }, kinds := [], alts := [], laidByText := true, laidKinds := [.data], laidTests := true, laidLooks := .later }
def FnUninterlaceUptoCardSaid : Prop := Claim7.holds Tryd.pinned (.plain (OpenSpec.upto fnUninterlaceSpec)) fnUninterlaceUptoCard

/-- THE SECOND FORM's CARD OF 'laws.FnUninterlaceBack'. -/
def fnUninterlaceBackUptoCard : Claim7 := { stood := { row := fnUninterlaceBackUptoRow, standIns := [], harness := (true, "feefa8ffa49d1a794f7837d478042f8dc1b2a04a9f4313563513e121db3983f0"), looks := true }, kinds := [], alts := [], laidByText := true, laidKinds := [.data], laidTests := true, laidLooks := .later }
def FnUninterlaceBackUptoCardSaid : Prop := Claim7.holds Tryd.pinned (.plain (OpenSpec.upto fnUninterlaceBackSpec)) fnUninterlaceBackUptoCard

/-- THE SECOND FORM's CARD OF 'laws.FnReadTable'. -/
def fnReadTableUptoCard : Claim7 := { stood := { row := fnReadTableUptoRow, standIns := [], harness := (true, "feefa8ffa49d1a794f7837d478042f8dc1b2a04a9f4313563513e121db3983f0"), looks := true }, kinds := [], alts := [], laidByText := true, laidKinds := [.sentinel, .sentinel, .sentinel], laidTests := true, laidLooks := .later }
def FnReadTableUptoCardSaid : Prop := Claim7.holds Tryd.pinned (.plain (OpenSpec.upto fnReadTableSpec)) fnReadTableUptoCard

/-- THE SECOND FORM's CARD OF 'laws.FnUnblocks'. -/
def fnUnblocksUptoCard : Claim7 := { stood := { row := fnUnblocksUptoRow, standIns := [], harness := (true, "feefa8ffa49d1a794f7837d478042f8dc1b2a04a9f4313563513e121db3983f0"), looks := true }, kinds := [], alts := [], laidByText := true, laidKinds := [.sentinel, .sentinel, .sentinel, .sentinel], laidTests := true, laidLooks := .later }
def FnUnblocksUptoCardSaid : Prop := Claim7.holds Tryd.pinned (.plain (OpenSpec.upto fnUnblocksSpec)) fnUnblocksUptoCard

/-- THE SECOND FORM's CARD OF 'laws.FnUnblocksBack'. -/
def fnUnblocksBackUptoCard : Claim7 := { stood := { row := fnUnblocksBackUptoRow, standIns := [], harness := (true, "feefa8ffa49d1a794f7837d478042f8dc1b2a04a9f4313563513e121db3983f0"), looks := true }, kinds := [], alts := [], laidByText := true, laidKinds := [.sentinel, .sentinel, .sentinel, .sentinel], laidTests := true, laidLooks := .later }
def FnUnblocksBackUptoCardSaid : Prop := Claim7.holds Tryd.pinned (.plain (OpenSpec.upto fnUnblocksBackSpec)) fnUnblocksBackUptoCard

/-- THE SECOND FORM's CARD OF 'laws.FnTableBack'. -/
def fnTableBackUptoCard : Claim7 := { stood := { row := fnTableBackUptoRow, standIns := [], harness := (true, "feefa8ffa49d1a794f7837d478042f8dc1b2a04a9f4313563513e121db3983f0"), looks := true }, kinds := [], alts := [], laidByText := true, laidKinds := [.sentinel, .sentinel, .sentinel], laidTests := true, laidLooks := .later }
def FnTableBackUptoCardSaid : Prop := Claim7.holds Tryd.pinned (.plain (OpenSpec.upto fnTableBackSpec)) fnTableBackUptoCard
end Rows
end Go.Proofs.YthlhcfjpijilaaaDoor
