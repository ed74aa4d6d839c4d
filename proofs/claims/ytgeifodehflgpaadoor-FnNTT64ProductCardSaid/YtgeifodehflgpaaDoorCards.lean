/-
  DERIVED. GIVEN WITH THE SEED: THE CARDS: each row of YtgeifodehflgpaaDoorRows.lean that lists a variable, with what it lists TIED to the program's text (the seventh form; the later family's looks); each row that meets fmt, with fmt's text TOLD by the authors' own Lean function (tested against real Go, not proved from fmt's source: count such statements apart). THE CARD IS WHAT COUNTS. Prove the row's statement (the work); the ties are given (YtgeifodehflgpaaDoorTie.lean); close each card by the builder's one call (the guide's Derived/Test/ToyasCard.lean, 'card_holds'). Laid BY PROGRAM, IN A SANDBOX (cutbox-door.mjs). By AI agents, Wed Nov 11 2026. No macro, syntax, notation, axiom, sorry.
-/
import Derived.Test.YtgeifodehflgpaaDoorRows
import GoSem.ClaimSeven
namespace Go.Proofs.YtgeifodehflgpaaDoor
namespace Rows

/-- THE TIED CARD OF 'laws.FnNTT64Back'. -/
def fnNTT64BackCard : Claim7 := { stood := { row := fnNTT64BackRow, standIns := [], harness := (true, "7216abbe15c6e18135a036a0b3ada2be63cf9b31094f9f9f913fc193d08f746d"), looks := false }, kinds := [], alts := [], laidByText := true, laidKinds := [.data, .data, .data, .data, .data, .sentinel], laidTests := true, laidLooks := .later }
def FnNTT64BackCardSaid : Prop := Claim7.holds Tryd.pinned (.plain (OpenSpec.ofChange fnNTT64BackSpec)) fnNTT64BackCard

/-- THE TIED CARD OF 'laws.FnNTT64Product'. -/
def fnNTT64ProductCard : Claim7 := { stood := { row := fnNTT64ProductRow, standIns := [], harness := (true, "7216abbe15c6e18135a036a0b3ada2be63cf9b31094f9f9f913fc193d08f746d"), looks := false }, kinds := [], alts := [], laidByText := true, laidKinds := [.data, .data, .data, .data, .data, .sentinel], laidTests := true, laidLooks := .later }
def FnNTT64ProductCardSaid : Prop := Claim7.holds Tryd.pinned (.plain (OpenSpec.ofChange fnNTT64ProductSpec)) fnNTT64ProductCard

/-- THE SECOND FORM's CARD OF 'laws.FnNTT64Back'. -/
def fnNTT64BackUptoCard : Claim7 := { stood := { row := fnNTT64BackUptoRow, standIns := [], harness := (true, "7216abbe15c6e18135a036a0b3ada2be63cf9b31094f9f9f913fc193d08f746d"), looks := false }, kinds := [], alts := [], laidByText := true, laidKinds := [.data, .data, .data, .data, .data, .sentinel], laidTests := true, laidLooks := .later }
def FnNTT64BackUptoCardSaid : Prop := Claim7.holds Tryd.pinned (.plain (OpenSpec.upto fnNTT64BackSpec)) fnNTT64BackUptoCard

/-- THE SECOND FORM's CARD OF 'laws.FnNTT64Product'. -/
def fnNTT64ProductUptoCard : Claim7 := { stood := { row := fnNTT64ProductUptoRow, standIns := [], harness := (true, "7216abbe15c6e18135a036a0b3ada2be63cf9b31094f9f9f913fc193d08f746d"), looks := false }, kinds := [], alts := [], laidByText := true, laidKinds := [.data, .data, .data, .data, .data, .sentinel], laidTests := true, laidLooks := .later }
def FnNTT64ProductUptoCardSaid : Prop := Claim7.holds Tryd.pinned (.plain (OpenSpec.upto fnNTT64ProductSpec)) fnNTT64ProductUptoCard
end Rows
end Go.Proofs.YtgeifodehflgpaaDoor
