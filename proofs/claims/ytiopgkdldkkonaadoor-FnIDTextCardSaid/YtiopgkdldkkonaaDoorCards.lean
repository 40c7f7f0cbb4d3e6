/-
  DERIVED. GIVEN WITH THE SEED: THE CARDS: each row of YtiopgkdldkkonaaDoorRows.lean that lists a variable, with what it lists TIED to the program's text (the seventh form; the later family's looks); each row that meets fmt, with fmt's text TOLD by the authors' own Lean function (tested against real Go, not proved from fmt's source: count such statements apart). THE CARD IS WHAT COUNTS. Prove the row's statement (the work); the ties are given (YtiopgkdldkkonaaDoorTie.lean); close each card by the builder's one call (the guide's Derived/Test/ToyasCard.lean, 'card_holds'). Laid BY PROGRAM, IN A SANDBOX (cutbox-door.mjs). By AI agents, Wed Nov 11 2026. No macro, syntax, notation, axiom, sorry.
-/
import Derived.Test.YtiopgkdldkkonaaDoorRows
import GoSem.ClaimSeven
namespace Go.Proofs.YtiopgkdldkkonaaDoor
namespace Rows

/-- THE TIED CARD OF 'laws.FnIDBytes'. -/
def fnIDBytesCard : Claim7 := { stood := { row := fnIDBytesRow, standIns := [], harness := (true, "1450e01aacdf8ae183782cea0b5ef607a141e06084be335bf8461e2cc69b2e91"), looks := false }, kinds := [], alts := [], laidByText := true, laidKinds := [.data, .data, .data], laidTests := true, laidLooks := .later }
def FnIDBytesCardSaid : Prop := Claim7.holds Tryd.pinned (.plain (OpenSpec.ofChange fnIDBytesSpec)) fnIDBytesCard

/-- THE TIED CARD OF 'laws.FnIDText'. -/
def fnIDTextCard : Claim7 := { stood := { row := fnIDTextRow, standIns := [], harness := (true, "1450e01aacdf8ae183782cea0b5ef607a141e06084be335bf8461e2cc69b2e91"), looks := false }, kinds := [], alts := [], laidByText := true, laidKinds := [.data, .data, .data], laidTests := true, laidLooks := .later }
def FnIDTextCardSaid : Prop := Claim7.holds Tryd.pinned (.plain (OpenSpec.ofChange fnIDTextSpec)) fnIDTextCard

/-- THE SECOND FORM's CARD OF 'laws.FnIDBytes'. -/
def fnIDBytesUptoCard : Claim7 := { stood := { row := fnIDBytesUptoRow, standIns := [], harness := (true, "1450e01aacdf8ae183782cea0b5ef607a141e06084be335bf8461e2cc69b2e91"), looks := false }, kinds := [], alts := [], laidByText := true, laidKinds := [.data, .data, .data], laidTests := true, laidLooks := .later }
def FnIDBytesUptoCardSaid : Prop := Claim7.holds Tryd.pinned (.plain (OpenSpec.upto fnIDBytesSpec)) fnIDBytesUptoCard

/-- THE SECOND FORM's CARD OF 'laws.FnIDText'. -/
def fnIDTextUptoCard : Claim7 := { stood := { row := fnIDTextUptoRow, standIns := [], harness := (true, "1450e01aacdf8ae183782cea0b5ef607a141e06084be335bf8461e2cc69b2e91"), looks := false }, kinds := [], alts := [], laidByText := true, laidKinds := [.data, .data, .data], laidTests := true, laidLooks := .later }
def FnIDTextUptoCardSaid : Prop := Claim7.holds Tryd.pinned (.plain (OpenSpec.upto fnIDTextSpec)) fnIDTextUptoCard
end Rows
end Go.Proofs.YtiopgkdldkkonaaDoor
