/-
  DERIVED. GIVEN WITH THE SEED: THE CARDS: each row of YtpahhejkpdkjmaaGreatDoorRows.lean that lists a variable, with what it lists TIED to the program's text (the seventh form; the later family's looks); each row that meets fmt, with fmt's text TOLD by the authors' own Lean function (tested against real Go, not proved from fmt's source: count such statements apart). THE CARD IS WHAT COUNTS. Prove the row's statement (the work); the ties are given (YtpahhejkpdkjmaaGreatDoorTie.lean); close each card by the builder's one call (the guide's Derived/Test/ToyasCard.lean, 'card_holds'). Laid BY PROGRAM, IN A SANDBOX (cutbox-door.mjs). By AI agents, Wed Nov 11 2026. No macro, syntax, notation, axiom, sorry.
-/
import Derived.Test.YtpahhejkpdkjmaaGreatDoorRows
import GoSem.ClaimSeven
namespace Go.Proofs.YtpahhejkpdkjmaaGreatDoor
namespace Rows

/-- THE TIED CARD OF 'laws.FnExact'. -/
def fnExactCard : Claim7 := { stood := { row := fnExactRow, standIns := [], harness := (true, "ccc26d35027aab49348878ce9158c8337856293861b55dd406e860162d13e29f"), looks := true }, kinds := [], alts := [], laidByText := true, laidKinds := [.data, .data, .data, .data, .pinned, .pinned], laidTests := true, laidLooks := .later }
def FnExactCardSaid : Prop := Claim7.holds Tryz.pinned (.plain (OpenSpec.ofChange fnExactSpec)) fnExactCard

/-- THE TIED CARD OF 'laws.FnCode'. -/
def fnCodeCard : Claim7 := { stood := { row := fnCodeRow, standIns := [], harness := (true, "ccc26d35027aab49348878ce9158c8337856293861b55dd406e860162d13e29f"), looks := true }, kinds := [], alts := [], laidByText := true, laidKinds := [.data, .data, .data, .data, .pinned, .pinned], laidTests := true, laidLooks := .later }
def FnCodeCardSaid : Prop := Claim7.holds Tryz.pinned (.plain (OpenSpec.ofChange fnCodeSpec)) fnCodeCard

/-- THE TIED CARD OF 'laws.FnLenNumber'. -/
def fnLenNumberCard : Claim7 := { stood := { row := fnLenNumberRow, standIns := [], harness := (true, "ccc26d35027aab49348878ce9158c8337856293861b55dd406e860162d13e29f"), looks := true }, kinds := [], alts := [], laidByText := true, laidKinds := [.data, .data, .data, .data, .pinned, .pinned], laidTests := true, laidLooks := .later }
def FnLenNumberCardSaid : Prop := Claim7.holds Tryz.pinned (.plain (OpenSpec.ofChange fnLenNumberSpec)) fnLenNumberCard

/-- THE TIED CARD OF 'laws.FnConcatenate'. -/
def fnConcatenateCard : Claim7 := { stood := { row := fnConcatenateRow, standIns := [], harness := (true, "ccc26d35027aab49348878ce9158c8337856293861b55dd406e860162d13e29f"), looks := true }, kinds := [], alts := [], laidByText := true, laidKinds := [.data, .data, .data, .data, .pinned, .pinned, .sentinel], laidTests := true, laidLooks := .later }
def FnConcatenateCardSaid : Prop := Claim7.holds Tryz.pinned (.plain (OpenSpec.ofChange fnConcatenateSpec)) fnConcatenateCard

/-- THE SECOND FORM's CARD OF 'laws.FnExact'. -/
def fnExactUptoCard : Claim7 := { stood := { row := fnExactUptoRow, standIns := [], harness := (true, "ccc26d35027aab49348878ce9158c8337856293861b55dd406e860162d13e29f"), looks := true }, kinds := [], alts := [], laidByText := true, laidKinds := [.data, .data, .data, .data, .pinned, .pinned], laidTests := true, laidLooks := .later }
def FnExactUptoCardSaid : Prop := Claim7.holds Tryz.pinned (.plain (OpenSpec.upto fnExactSpec)) fnExactUptoCard

/-- THE SECOND FORM's CARD OF 'laws.FnCode'. -/
def fnCodeUptoCard : Claim7 := { stood := { row := fnCodeUptoRow, standIns := [], harness := (true, "ccc26d35027aab49348878ce9158c8337856293861b55dd406e860162d13e29f"), looks := true }, kinds := [], alts := [], laidByText := true, laidKinds := [.data, .data, .data, .data, .pinned, .pinned], laidTests := true, laidLooks := .later }
def FnCodeUptoCardSaid : Prop := Claim7.holds Tryz.pinned (.plain (OpenSpec.upto fnCodeSpec)) fnCodeUptoCard

/-- THE SECOND FORM's CARD OF 'laws.FnLenNumber'. -/
def fnLenNumberUptoCard : Claim7 := { stood := { row := fnLenNumberUptoRow, standIns := [], harness := (true, "ccc26d35027aab49348878ce9158c8337856293861b55dd406e860162d13e29f"), looks := true }, kinds := [], alts := [], laidByText := true, laidKinds := [.data, .data, .data, .data, .pinned, .pinned], laidTests := true, laidLooks := .later }
def FnLenNumberUptoCardSaid : Prop := Claim7.holds Tryz.pinned (.plain (OpenSpec.upto fnLenNumberSpec)) fnLenNumberUptoCard

/-- THE SECOND FORM's CARD OF 'laws.FnConcatenate'. -/
def fnConcatenateUptoCard : Claim7 := { stood := { row := fnConcatenateUptoRow, standIns := [], harness := (true, "ccc26d35027aab49348878ce9158c8337856293861b55dd406e860162d13e29f"), looks := true }, kinds := [], alts := [], laidByText := true, laidKinds := [.data, .data, .data, .data, .pinned, .pinned, .sentinel], laidTests := true, laidLooks := .later }
def FnConcatenateUptoCardSaid : Prop := Claim7.holds Tryz.pinned (.plain (OpenSpec.upto fnConcatenateSpec)) fnConcatenateUptoCard
end Rows
end Go.Proofs.YtpahhejkpdkjmaaGreatDoor
