/-
  DERIVED. GIVEN WITH THE SEED: THE CARDS: each row of YtalpilbpgkijlaaDoorRows.lean that lists a variable, with what it lists TIED to the program's text (the seventh form; the later family's looks); each row that meets fmt, with fmt's text TOLD by the authors' own Lean function (tested against real Go, not proved from fmt's source: count such statements apart). THE CARD IS WHAT COUNTS. Prove the row's statement (the work); the ties are given (YtalpilbpgkijlaaDoorTie.lean); close each card by the builder's one call (the guide's Derived/Test/ToyasCard.lean, 'card_holds'). Laid BY PROGRAM, IN A SANDBOX (cutbox-door.mjs). By AI agents, Wed Nov 11 2026. No macro, syntax, notation, axiom, sorry.
-/
import Derived.Test.YtalpilbpgkijlaaDoorRows
import GoSem.ClaimSeven
namespace Go.Proofs.YtalpilbpgkijlaaDoor
namespace Rows

/-- THE TIED CARD OF 'laws.FnBalance'. -/
def fnBalanceCard : Claim7 := { stood := { row := fnBalanceRow, standIns := [], harness := (true, "a8ad36e5055cc57bfe85e63f0806cc2499fe7e51309d2d75f2c92468a06ef28f"), looks := true }, kinds := [], alts := [], laidByText := true, laidKinds := [.sentinel], laidTests := true, laidLooks := .later }
def FnBalanceCardSaid : Prop := Claim7.holds Tryd.pinned (.plain (OpenSpec.ofChange fnBalanceSpec)) fnBalanceCard

/-- THE TIED CARD OF 'laws.FnBuffer'. -/
def fnBufferCard : Claim7 := { stood := { row := fnBufferRow, standIns := [], harness := (true, "a8ad36e5055cc57bfe85e63f0806cc2499fe7e51309d2d75f2c92468a06ef28f"), looks := true }, kinds := [], alts := [], laidByText := true, laidKinds := [.sentinel], laidTests := true, laidLooks := .later }
def FnBufferCardSaid : Prop := Claim7.holds Tryd.pinned (.plain (OpenSpec.ofChange fnBufferSpec)) fnBufferCard

/-- THE TIED CARD OF 'laws.FnInflow'. -/
def fnInflowCard : Claim7 := { stood := { row := fnInflowRow, standIns := [], harness := (true, "a8ad36e5055cc57bfe85e63f0806cc2499fe7e51309d2d75f2c92468a06ef28f"), looks := true }, kinds := [], alts := [], laidByText := true, laidKinds := [.sentinel], laidTests := true, laidLooks := .later }
def FnInflowCardSaid : Prop := Claim7.holds Tryd.pinned (.plain (OpenSpec.ofChange fnInflowSpec)) fnInflowCard

/-- THE TIED CARD OF 'laws.FnOutflow'. -/
def fnOutflowCard : Claim7 := { stood := { row := fnOutflowRow, standIns := [], harness := (true, "a8ad36e5055cc57bfe85e63f0806cc2499fe7e51309d2d75f2c92468a06ef28f"), looks := true }, kinds := [], alts := [], laidByText := true, laidKinds := [.sentinel], laidTests := true, laidLooks := .later }
def FnOutflowCardSaid : Prop := Claim7.holds Tryd.pinned (.plain (OpenSpec.ofChange fnOutflowSpec)) fnOutflowCard

/-- THE TIED CARD OF 'laws.FnTransfer'. -/
def fnTransferCard : Claim7 := { stood := { row := fnTransferRow, standIns := [], harness := (true, "a8ad36e5055cc57bfe85e63f0806cc2499fe7e51309d2d75f2c92468a06ef28f"), looks := true }, kinds := [], alts := [], laidByText := true, laidKinds := [.sentinel], laidTests := true, laidLooks := .later }
def FnTransferCardSaid : Prop := Claim7.holds Tryd.pinned (.plain (OpenSpec.ofChange fnTransferSpec)) fnTransferCard

/-- THE SECOND FORM's CARD OF 'laws.FnBalance'. -/
def fnBalanceUptoCard : Claim7 := { stood := { row := fnBalanceUptoRow, standIns := [], harness := (true, "a8ad36e5055cc57bfe85e63f0806cc2499fe7e51309d2d75f2c92468a06ef28f"), looks := true }, kinds := [], alts := [], laidByText := true, laidKinds := [.sentinel], laidTests := true, laidLooks := .later }
def FnBalanceUptoCardSaid : Prop := Claim7.holds Tryd.pinned (.plain (OpenSpec.upto fnBalanceSpec)) fnBalanceUptoCard

/-- THE SECOND FORM's CARD OF 'laws.FnBuffer'. -/
def fnBufferUptoCard : Claim7 := { stood := { row := fnBufferUptoRow, standIns := [], harness := (true, "a8ad36e5055cc57bfe85e63f0806cc2499fe7e51309d2d75f2c92468a06ef28f"), looks := true }, kinds := [], alts := [], laidByText := true, laidKinds := [.sentinel], laidTests := true, laidLooks := .later }
def FnBufferUptoCardSaid : Prop := Claim7.holds Tryd.pinned (.plain (OpenSpec.upto fnBufferSpec)) fnBufferUptoCard

/-- THE SECOND FORM's CARD OF 'laws.FnInflow'. -/
def fnInflowUptoCard : Claim7 := { stood := { row := fnInflowUptoRow, standIns := [], harness := (true, "a8ad36e5055cc57bfe85e63f0806cc2499fe7e51309d2d75f2c92468a06ef28f"), looks := true }, kinds := [], alts := [], laidByText := true, laidKinds := [.sentinel], laidTests := true, laidLooks := .later }
def FnInflowUptoCardSaid : Prop := Claim7.holds Tryd.pinned (.plain (OpenSpec.upto fnInflowSpec)) fnInflowUptoCard

/-- THE SECOND FORM's CARD OF 'laws.FnOutflow'. -/
def fnOutflowUptoCard : Claim7 := { stood := { row := fnOutflowUptoRow, standIns := [], harness := (true, "a8ad36e5055cc57bfe85e63f0806cc2499fe7e51309d2d75f2c92468a06ef28f"), looks := true }, kinds := [], alts := [], laidByText := true, laidKinds := [.sentinel], laidTests := true, laidLooks := .later }
def FnOutflowUptoCardSaid : Prop := Claim7.holds Tryd.pinned (.plain (OpenSpec.upto fnOutflowSpec)) fnOutflowUptoCard

/-- THE SECOND FORM's CARD OF 'laws.FnTransfer'. -/
def fnTransferUptoCard : Claim7 := { stood := { row := fnTransferUptoRow, standIns := [], harness := (true, "a8ad36e5055cc57bfe85e63f0806cc2499fe7e51309d2d75f2c92468a06ef28f"), looks := true }, kinds := [], alts := [], laidByText := true, laidKinds := [.sentinel], laidTests := true, laidLooks := .later }
def FnTransferUptoCardSaid : Prop := Claim7.holds Tryd.pinned (.plain (OpenSpec.upto fnTransferSpec)) fnTransferUptoCard
end Rows
end Go.Proofs.YtalpilbpgkijlaaDoor
