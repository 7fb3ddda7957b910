/-
  DERIVED. GIVEN WITH THE SEED: THE CARDS: each row of YtbdhlpeckennjaaGreatDoorRows.lean that lists a variable, with what it lists TIED to the program's text (the seventh form; the later family's looks); each row that meets fmt, with fmt's text TOLD by the authors' own Lean function (tested against real Go, not proved from fmt's source: count such statements apart). THE CARD IS WHAT COUNTS. Prove the row's statement (the work); the ties are given (YtbdhlpeckennjaaGreatDoorTie.lean); close each card by the builder's one call (the guide's Derived/Test/ToyasCard.lean, 'card_holds'). Laid BY PROGRAM, IN A SANDBOX (cutbox-door.mjs). By AI agents, Wed Nov 11 2026. No macro, syntax, notation, axiom, sorry.
-/
import Derived.Test.YtbdhlpeckennjaaGreatDoorRows
import GoSem.ClaimSeven
namespace Go.Proofs.YtbdhlpeckennjaaGreatDoor
namespace Rows

/-- THE TIED CARD OF 'laws.FnLong'. -/
def fnLongCard : Claim7 := { stood := { row := fnLongRow, standIns := [], harness := (true, "0b7f03b5476543fb43e41990118ac3850a2ae482ddf4ac7dcc2fa210c03310cb"), looks := true }, kinds := [], alts := [], laidByText := true, laidKinds := [.data, .data, .data, .data, .data, .sentinel, .sentinel, .sentinel, .sentinel, .pinned], laidTests := true, laidLooks := .later }
def FnLongCardSaid : Prop := Claim7.holds Tryz.pinned (.plain (OpenSpec.ofChange fnLongSpec)) fnLongCard

/-- THE TIED CARD OF 'laws.FnReadConditions'. -/
def fnReadConditionsCard : Claim7 := { stood := { row := fnReadConditionsRow, standIns := [], harness := (true, "0b7f03b5476543fb43e41990118ac3850a2ae482ddf4ac7dcc2fa210c03310cb"), looks := true }, kinds := [], alts := [], laidByText := true, laidKinds := [.data, .data, .data, .data, .data, .sentinel, .sentinel, .sentinel, .sentinel, .pinned], laidTests := true, laidLooks := .later }
def FnReadConditionsCardSaid : Prop := Claim7.holds Tryz.pinned (.plain (OpenSpec.ofChange fnReadConditionsSpec)) fnReadConditionsCard

/-- THE TIED CARD OF 'laws.FnReadMethod'. -/
def fnReadMethodCard : Claim7 := { stood := { row := fnReadMethodRow, standIns := [], harness := (true, "0b7f03b5476543fb43e41990118ac3850a2ae482ddf4ac7dcc2fa210c03310cb"), looks := true }, kinds := [], alts := [], laidByText := true, laidKinds := [.data, .data, .data, .data, .data, .sentinel, .sentinel, .sentinel, .sentinel, .pinned], laidTests := true, laidLooks := .later }
def FnReadMethodCardSaid : Prop := Claim7.holds Tryz.pinned (.plain (OpenSpec.ofChange fnReadMethodSpec)) fnReadMethodCard

/-- THE TIED CARD OF 'laws.FnBracketMore'. -/
def fnBracketMoreCard : Claim7 := { stood := { row := fnBracketMoreRow, standIns := [], harness := (true, "0b7f03b5476543fb43e41990118ac3850a2ae482ddf4ac7dcc2fa210c03310cb"), looks := true }, kinds := [], alts := [], laidByText := true, laidKinds := [.data, .data, .data, .data, .data, .sentinel, .sentinel, .sentinel, .sentinel, .pinned], laidTests := true, laidLooks := .later }
def FnBracketMoreCardSaid : Prop := Claim7.holds Tryz.pinned (.plain (OpenSpec.ofChange fnBracketMoreSpec)) fnBracketMoreCard

/-- THE TIED CARD OF 'laws.FnPoliciesPacked'. -/
def fnPoliciesPackedCard : Claim7 := { stood := { row := fnPoliciesPackedRow, standIns := [], harness := (true, "0b7f03b5476543fb43e41990118ac3850a2ae482ddf4ac7dcc2fa210c03310cb"), looks := true }, kinds := [], alts := [], laidByText := true, laidKinds := [.data, .data, .data, .data, .data, .sentinel, .sentinel, .sentinel, .sentinel, .pinned], laidTests := true, laidLooks := .later }
def FnPoliciesPackedCardSaid : Prop := Claim7.holds Tryz.pinned (.plain (OpenSpec.ofChange fnPoliciesPackedSpec)) fnPoliciesPackedCard

/-- THE SECOND FORM's CARD OF 'laws.FnLong'. -/
def fnLongUptoCard : Claim7 := { stood := { row := fnLongUptoRow, standIns := [], harness := (true, "0b7f03b5476543fb43e41990118ac3850a2ae482ddf4ac7dcc2fa210c03310cb"), looks := true }, kinds := [], alts := [], laidByText := true, laidKinds := [.data, .data, .data, .data, .data, .sentinel, .sentinel, .sentinel, .sentinel, .pinned], laidTests := true, laidLooks := .later }
def FnLongUptoCardSaid : Prop := Claim7.holds Tryz.pinned (.plain (OpenSpec.upto fnLongSpec)) fnLongUptoCard

/-- THE SECOND FORM's CARD OF 'laws.FnReadConditions'. -/
def fnReadConditionsUptoCard : Claim7 := { stood := { row := fnReadConditionsUptoRow, standIns := [], harness := (true, "0b7f03b5476543fb43e41990118ac3850a2ae482ddf4ac7dcc2fa210c03310cb"), looks := true }, kinds := [], alts := [], laidByText := true, laidKinds := [.data, .data, .data, .data, .data, .sentinel, .sentinel, .sentinel, .sentinel, .pinned], laidTests := true, laidLooks := .later }
def FnReadConditionsUptoCardSaid : Prop := Claim7.holds Tryz.pinned (.plain (OpenSpec.upto fnReadConditionsSpec)) fnReadConditionsUptoCard

/-- THE SECOND FORM's CARD OF 'laws.FnReadMethod'. -/
def fnReadMethodUptoCard : Claim7 := { stood := { row := fnReadMethodUptoRow, standIns := [], harness := (true, "0b7f03b5476543fb43e41990118ac3850a2ae482ddf4ac7dcc2fa210c03310cb"), looks := true }, kinds := [], alts := [], laidByText := true, laidKinds := [.data, .data, .data, .data, .data, .sentinel, .sentinel, .sentinel, .sentinel, .pinned], laidTests := true, laidLooks := .later }
def FnReadMethodUptoCardSaid : Prop := Claim7.holds Tryz.pinned (.plain (OpenSpec.upto fnReadMethodSpec)) fnReadMethodUptoCard

/-- THE SECOND FORM's CARD OF 'laws.FnBracketMore'. -/
def fnBracketMoreUptoCard : Claim7 := { stood := { row := fnBracketMoreUptoRow, standIns := [], harness := (true, "0b7f03b5476543fb43e41990118ac3850a2ae482ddf4ac7dcc2fa210c03310cb"), looks := true }, kinds := [], alts := [], laidByText := true, laidKinds := [.data, .data, .data, .data, .data, .sentinel, .sentinel, .sentinel, .sentinel, .pinned], laidTests := true, laidLooks := .later }
def FnBracketMoreUptoCardSaid : Prop := Claim7.holds Tryz.pinned (.plain (OpenSpec.upto fnBracketMoreSpec)) fnBracketMoreUptoCard

/-- THE SECOND FORM's CARD OF 'laws.FnPoliciesPacked'. -/
def fnPoliciesPackedUptoCard : Claim7 := { stood := { row := fnPoliciesPackedUptoRow, standIns := [], harness := (true, "0b7f03b5476543fb43e41990118ac3850a2ae482ddf4ac7dcc2fa210c03310cb"), looks := true }, kinds := [], alts := [], laidByText := true, laidKinds := [.data, .data, .data, .data, .data, .sentinel, .sentinel, .sentinel, .sentinel, .pinned], laidTests := true, laidLooks := .later }
def FnPoliciesPackedUptoCardSaid : Prop := Claim7.holds Tryz.pinned (.plain (OpenSpec.upto fnPoliciesPackedSpec)) fnPoliciesPackedUptoCard
end Rows
end Go.Proofs.YtbdhlpeckennjaaGreatDoor
