/-
  DERIVED. GIVEN WITH THE SEED: THE CARDS: each row of YtimihpddlinmbaaDoorRows.lean that lists a variable, with what it lists TIED to the program's text (the seventh form; the later family's looks); each row that meets fmt, with fmt's text TOLD by the authors' own Lean function (tested against real Go, not proved from fmt's source: count such statements apart). THE CARD IS WHAT COUNTS. Prove the row's statement (the work); the ties are given (YtimihpddlinmbaaDoorTie.lean); close each card by the builder's one call (the guide's Derived/Test/ToyasCard.lean, 'card_holds'). Laid BY PROGRAM, IN A SANDBOX (cutbox-door.mjs). By AI agents, Wed Nov 11 2026. No macro, syntax, notation, axiom, sorry.
-/
import Derived.Test.YtimihpddlinmbaaDoorRows
import GoSem.ClaimSeven
namespace Go.Proofs.YtimihpddlinmbaaDoor
namespace Rows

/-- THE TIED CARD OF 'laws.FnNTT128Back'. -/
def fnNTT128BackCard : Claim7 := { stood := { row := fnNTT128BackRow, standIns := [], harness := (true, "d511d4ad4df7f56346a1b2b6822f9fda1b2b5b4c5132368b8f3090dce09b2c93"), looks := false }, kinds := [], alts := [], laidByText := true, laidKinds := [.data, .data, .data, .data, .data, .sentinel], laidTests := true, laidLooks := .later }
def FnNTT128BackCardSaid : Prop := Claim7.holds Tryd.pinned (.plain (OpenSpec.ofChange fnNTT128BackSpec)) fnNTT128BackCard

/-- THE TIED CARD OF 'laws.FnNTT128Product'. -/
def fnNTT128ProductCard : Claim7 := { stood := { row := fnNTT128ProductRow, standIns := [], harness := (true, "d511d4ad4df7f56346a1b2b6822f9fda1b2b5b4c5132368b8f3090dce09b2c93"), looks := false }, kinds := [], alts := [], laidByText := true, laidKinds := [.data, .data, .data, .data, .data, .sentinel], laidTests := true, laidLooks := .later }
def FnNTT128ProductCardSaid : Prop := Claim7.holds Tryd.pinned (.plain (OpenSpec.ofChange fnNTT128ProductSpec)) fnNTT128ProductCard

/-- THE SECOND FORM's CARD OF 'laws.FnNTT128Back'. -/
def fnNTT128BackUptoCard : Claim7 := { stood := { row := fnNTT128BackUptoRow, standIns := [], harness := (true, "d511d4ad4df7f56346a1b2b6822f9fda1b2b5b4c5132368b8f3090dce09b2c93"), looks := false }, kinds := [], alts := [], laidByText := true, laidKinds := [.data, .data, .data, .data, .data, .sentinel], laidTests := true, laidLooks := .later }
def FnNTT128BackUptoCardSaid : Prop := Claim7.holds Tryd.pinned (.plain (OpenSpec.upto fnNTT128BackSpec)) fnNTT128BackUptoCard

/-- THE SECOND FORM's CARD OF 'laws.FnNTT128Product'. -/
def fnNTT128ProductUptoCard : Claim7 := { stood := { row := fnNTT128ProductUptoRow, standIns := [], harness := (true, "d511d4ad4df7f56346a1b2b6822f9fda1b2b5b4c5132368b8f3090dce09b2c93"), looks := false }, kinds := [], alts := [], laidByText := true, laidKinds := [.data, .data, .data, .data, .data, .sentinel], laidTests := true, laidLooks := .later }
def FnNTT128ProductUptoCardSaid : Prop := Claim7.holds Tryd.pinned (.plain (OpenSpec.upto fnNTT128ProductSpec)) fnNTT128ProductUptoCard
end Rows
end Go.Proofs.YtimihpddlinmbaaDoor
