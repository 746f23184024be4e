/-
  DERIVED. GIVEN WITH THE SEED: THE CARDS: each row of Qxb6602072aDoorRows.lean that lists a variable, with what it lists TIED to the program's text (the seventh form; the later family's looks); each row that meets fmt, with fmt's text TOLD by the authors' own Lean function (tested against real Go, not proved from fmt's source: count such statements apart). THE CARD IS WHAT COUNTS. Prove the row's statement (the work); the ties are given (Qxb6602072aDoorTie.lean); close each card by the builder's one call (the guide's Derived/Test/ToyasCard.lean, 'card_holds'). Laid BY PROGRAM, IN A SANDBOX (cutbox-door.mjs). By AI agents, Wed Nov 11 2026. No macro, syntax, notation, axiom, sorry.
-/
import Derived.Test.Qxb6602072aDoorRows
import GoSem.ClaimSeven
namespace Go.Proofs.Qxb6602072aDoor
namespace Rows

/-- THE TIED CARD OF 'zzlaws_internal_value_b1.FnLeadingGroupIsFirstNonzeroGroupOfText'. -/
def fnLeadingGroupIsFirstNonzeroGroupOfTextCard : Claim7 := { stood := { row := fnLeadingGroupIsFirstNonzeroGroupOfTextRow, standIns := [], harness := (true, "dd68fb48d4cbdfac6b2df20250a03dbd4cfc492fe2dfc009c1bf81884e870f2f"), looks := true }, kinds := [], alts := [], laidByText := true, laidKinds := [.data, .data, .data, .sentinel, .sentinel], laidTests := true, laidLooks := .later }
def FnLeadingGroupIsFirstNonzeroGroupOfTextCardSaid : Prop := Claim7.holds Tryd.pinned (.plain (OpenSpec.ofChange fnLeadingGroupIsFirstNonzeroGroupOfTextSpec)) fnLeadingGroupIsFirstNonzeroGroupOfTextCard

/-- THE TIED CARD OF 'zzlaws_internal_value_b1.FnLeadingGroupHoldsFirstDigit'. -/
def fnLeadingGroupHoldsFirstDigitCard : Claim7 := { stood := { row := fnLeadingGroupHoldsFirstDigitRow, standIns := [], harness := (true, "dd68fb48d4cbdfac6b2df20250a03dbd4cfc492fe2dfc009c1bf81884e870f2f"), looks := true }, kinds := [], alts := [], laidByText := true, laidKinds := [.data, .data, .data, .sentinel, .sentinel], laidTests := true, laidLooks := .later }
def FnLeadingGroupHoldsFirstDigitCardSaid : Prop := Claim7.holds Tryd.pinned (.plain (OpenSpec.ofChange fnLeadingGroupHoldsFirstDigitSpec)) fnLeadingGroupHoldsFirstDigitCard
end Rows
end Go.Proofs.Qxb6602072aDoor
