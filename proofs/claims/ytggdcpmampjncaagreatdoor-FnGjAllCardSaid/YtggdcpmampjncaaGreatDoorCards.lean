/-
  DERIVED. GIVEN WITH THE SEED: THE CARDS: each row of YtggdcpmampjncaaGreatDoorRows.lean that lists a variable, with what it lists TIED to the program's text (the seventh form; the later family's looks); each row that meets fmt, with fmt's text TOLD by the authors' own Lean function (tested against real Go, not proved from fmt's source: count such statements apart). THE CARD IS WHAT COUNTS. Prove the row's statement (the work); the ties are given (YtggdcpmampjncaaGreatDoorTie.lean); close each card by the builder's one call (the guide's Derived/Test/ToyasCard.lean, 'card_holds'). Laid BY PROGRAM, IN A SANDBOX (cutbox-door.mjs). By AI agents, Wed Nov 11 2026. No macro, syntax, notation, axiom, sorry.
-/
import Derived.Test.YtggdcpmampjncaaGreatDoorRows
import GoSem.ClaimSeven
namespace Go.Proofs.YtggdcpmampjncaaGreatDoor
namespace Rows

/-- THE TIED CARD OF 'laws.FnGjResultArrayRaw'. -/
def fnGjResultArrayRawCard : Claim7 := { stood := { row := fnGjResultArrayRawRow, standIns := [], harness := (true, "23632f1885307b3c85ade599c71ea599f06f786dcde91dedfe892f677d538f6a"), looks := true }, kinds := [], alts := [], laidByText := true, laidKinds := [.data, .data, .widerDeep, .widerDeep, .data, .data, .data, .data, .data, .sentinel, .sentinel, .pinned, .pinned], laidTests := true, laidLooks := .later }
def FnGjResultArrayRawCardSaid : Prop := Claim7.holds Tryz.pinned (.plain (OpenSpec.ofChange fnGjResultArrayRawSpec)) fnGjResultArrayRawCard

/-- THE TIED CARD OF 'laws.FnGjArray'. -/
def fnGjArrayCard : Claim7 := { stood := { row := fnGjArrayRow, standIns := [], harness := (true, "23632f1885307b3c85ade599c71ea599f06f786dcde91dedfe892f677d538f6a"), looks := true }, kinds := [], alts := [], laidByText := true, laidKinds := [.data, .data, .widerDeep, .widerDeep, .data, .data, .data, .data, .data, .sentinel, .sentinel, .pinned, .pinned], laidTests := true, laidLooks := .later }
def FnGjArrayCardSaid : Prop := Claim7.holds Tryz.pinned (.plain (OpenSpec.ofChange fnGjArraySpec)) fnGjArrayCard

/-- THE TIED CARD OF 'laws.FnGjAll'. -/
def fnGjAllCard : Claim7 := { stood := { row := fnGjAllRow, standIns := [], harness := (true, "23632f1885307b3c85ade599c71ea599f06f786dcde91dedfe892f677d538f6a"), looks := true }, kinds := [], alts := [], laidByText := true, laidKinds := [.data, .data, .widerDeep, .widerDeep, .data, .data, .data, .data, .data, .sentinel, .sentinel, .data, .pinned, .pinned], laidTests := true, laidLooks := .later }
def FnGjAllCardSaid : Prop := Claim7.holds Tryz.pinned (.plain (OpenSpec.ofChange fnGjAllSpec)) fnGjAllCard

/-- THE SECOND FORM's CARD OF 'laws.FnGjResultArrayRaw'. -/
def fnGjResultArrayRawUptoCard : Claim7 := { stood := { row := fnGjResultArrayRawUptoRow, standIns := [], harness := (true, "23632f1885307b3c85ade599c71ea599f06f786dcde91dedfe892f677d538f6a"), looks := true }, kinds := [], alts := [], laidByText := true, laidKinds := [.data, .data, .widerDeep, .widerDeep, .data, .data, .data, .data, .data, .sentinel, .sentinel, .pinned, .pinned], laidTests := true, laidLooks := .later }
def FnGjResultArrayRawUptoCardSaid : Prop := Claim7.holds Tryz.pinned (.plain (OpenSpec.upto fnGjResultArrayRawSpec)) fnGjResultArrayRawUptoCard

/-- THE SECOND FORM's CARD OF 'laws.FnGjArray'. -/
def fnGjArrayUptoCard : Claim7 := { stood := { row := fnGjArrayUptoRow, standIns := [], harness := (true, "23632f1885307b3c85ade599c71ea599f06f786dcde91dedfe892f677d538f6a"), looks := true }, kinds := [], alts := [], laidByText := true, laidKinds := [.data, .data, .widerDeep, .widerDeep, .data, .data, .data, .data, .data, .sentinel, .sentinel, .pinned, .pinned], laidTests := true, laidLooks := .later }
def FnGjArrayUptoCardSaid : Prop := Claim7.holds Tryz.pinned (.plain (OpenSpec.upto fnGjArraySpec)) fnGjArrayUptoCard

/-- THE SECOND FORM's CARD OF 'laws.FnGjAll'. -/
def fnGjAllUptoCard : Claim7 := { stood := { row := fnGjAllUptoRow, standIns := [], harness := (true, "23632f1885307b3c85ade599c71ea599f06f786dcde91dedfe892f677d538f6a"), looks := true }, kinds := [], alts := [], laidByText := true, laidKinds := [.data, .data, .widerDeep, .widerDeep, .data, .data, .data, .data, .data, .sentinel, .sentinel, .data, .pinned, .pinned], laidTests := true, laidLooks := .later }
def FnGjAllUptoCardSaid : Prop := Claim7.holds Tryz.pinned (.plain (OpenSpec.upto fnGjAllSpec)) fnGjAllUptoCard
end Rows
end Go.Proofs.YtggdcpmampjncaaGreatDoor
