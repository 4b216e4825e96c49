/-
  DERIVED. GIVEN WITH THE SEED: THE CARDS: each row of YtehcnjjkklogbaaDoorRows.lean that lists a variable, with what it lists TIED to the program's text (the seventh form; the later family's looks); each row that meets fmt, with fmt's text TOLD by the authors' own Lean function (tested against real Go, not proved from fmt's source: count such statements apart). THE CARD IS WHAT COUNTS. Prove the row's statement (the work); the ties are given (YtehcnjjkklogbaaDoorTie.lean); close each card by the builder's one call (the guide's Derived/Test/ToyasCard.lean, 'card_holds'). Laid BY PROGRAM, IN A SANDBOX (cutbox-door.mjs). By AI agents, Wed Nov 11 2026. No macro, syntax, notation, axiom, sorry.
-/
import Derived.Test.YtehcnjjkklogbaaDoorRows
import GoSem.ClaimSeven
namespace Go.Proofs.YtehcnjjkklogbaaDoor
namespace Rows

/-- THE TIED CARD OF 'laws.FnDigestRead'. -/
def fnDigestReadCard : Claim7 := { stood := { row := fnDigestReadRow, standIns := [], harness := (true, "89f200cad90e559763de397e0242cc8b50f3b05e0ff0d912d33bf9321451e97e"), looks := true }, kinds := [], alts := [], laidByText := true, laidKinds := [.data, .data, .data, .sentinel, .sentinel], laidTests := true, laidLooks := .later }
def FnDigestReadCardSaid : Prop := Claim7.holds Tryd.pinned (.plain (OpenSpec.ofChange fnDigestReadSpec)) fnDigestReadCard

/-- THE TIED CARD OF 'laws.FnDigest'. -/
def fnDigestCard : Claim7 := { stood := { row := fnDigestRow, standIns := [], harness := (true, "89f200cad90e559763de397e0242cc8b50f3b05e0ff0d912d33bf9321451e97e"), looks := true }, kinds := [], alts := [], laidByText := true, laidKinds := [.data, .data, .data, .sentinel, .sentinel], laidTests := true, laidLooks := .later }
def FnDigestCardSaid : Prop := Claim7.holds Tryd.pinned (.plain (OpenSpec.ofChange fnDigestSpec)) fnDigestCard

/-- THE SECOND FORM's CARD OF 'laws.FnDigestRead'. -/
def fnDigestReadUptoCard : Claim7 := { stood := { row := fnDigestReadUptoRow, standIns := [], harness := (true, "89f200cad90e559763de397e0242cc8b50f3b05e0ff0d912d33bf9321451e97e"), looks := true }, kinds := [], alts := [], laidByText := true, laidKinds := [.data, .data, .data, .sentinel, .sentinel], laidTests := true, laidLooks := .later }
def FnDigestReadUptoCardSaid : Prop := Claim7.holds Tryd.pinned (.plain (OpenSpec.upto fnDigestReadSpec)) fnDigestReadUptoCard

/-- THE SECOND FORM's CARD OF 'laws.FnDigest'. -/
def fnDigestUptoCard : Claim7 := { stood := { row := fnDigestUptoRow, standIns := [], harness := (true, "89f200cad90e559763de397e0242cc8b50f3b05e0ff0d912d33bf9321451e97e"), looks := true }, kinds := [], alts := [], laidByText := true, laidKinds := [.data, .data, .data, .sentinel, .sentinel], laidTests := true, laidLooks := .later }
def FnDigestUptoCardSaid : Prop := Claim7.holds Tryd.pinned (.plain (OpenSpec.upto fnDigestSpec)) fnDigestUptoCard
end Rows
end Go.Proofs.YtehcnjjkklogbaaDoor
