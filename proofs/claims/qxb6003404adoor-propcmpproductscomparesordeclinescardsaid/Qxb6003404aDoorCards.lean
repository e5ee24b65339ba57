/-
  DERIVED. GIVEN WITH THE SEED: THE CARDS: each row of Qxb6003404aDoorRows.lean that lists a variable, with what it lists TIED to the program's text (the seventh form; the later family's looks); each row that meets fmt, with fmt's text TOLD by the authors' own Lean function (tested against real Go, not proved from fmt's source: count such statements apart). THE CARD IS WHAT COUNTS. Prove the row's statement (the work); the ties are given (Qxb6003404aDoorTie.lean); close each card by the builder's one call (the guide's Derived/Test/ToyasCard.lean, 'card_holds'). Laid BY PROGRAM, IN A SANDBOX (cutbox-door.mjs). By AI agents, Wed Nov 11 2026. No macro, syntax, notation, axiom, sorry.
-/
import Derived.Test.Qxb6003404aDoorRows
import GoSem.ClaimSeven
namespace Go.Proofs.Qxb6003404aDoor
namespace Rows

/-- THE TIED CARD OF 'zzlaws_decimal_c1.PropDigits64CountsDigits'. -/
def propDigits64CountsDigitsCard : Claim7 := { stood := { row := propDigits64CountsDigitsRow, standIns := [], harness := (true, "4f74babb31afa5ef9d9351660cb3bf3ee9bef49e4583f2d3853c1f155ae55133"), looks := false }, kinds := [], alts := [], laidByText := true, laidKinds := [.called], laidTests := true, laidLooks := .later }
def PropDigits64CountsDigitsCardSaid : Prop := Claim7.holds Tryd.pinned (.plain (OpenSpec.ofChange propDigits64CountsDigitsSpec)) propDigits64CountsDigitsCard

/-- THE TIED CARD OF 'zzlaws_decimal_c1.PropCmpSmallComparesScaled'. -/
def propCmpSmallComparesScaledCard : Claim7 := { stood := { row := propCmpSmallComparesScaledRow, standIns := [], harness := (true, "4f74babb31afa5ef9d9351660cb3bf3ee9bef49e4583f2d3853c1f155ae55133"), looks := false }, kinds := [], alts := [], laidByText := true, laidKinds := [.called], laidTests := true, laidLooks := .later }
def PropCmpSmallComparesScaledCardSaid : Prop := Claim7.holds Tryd.pinned (.plain (OpenSpec.ofChange propCmpSmallComparesScaledSpec)) propCmpSmallComparesScaledCard

/-- THE TIED CARD OF 'zzlaws_decimal_c1.PropCmpProductsComparesOrDeclines'. -/
def propCmpProductsComparesOrDeclinesCard : Claim7 := { stood := { row := propCmpProductsComparesOrDeclinesRow, standIns := [], harness := (true, "4f74babb31afa5ef9d9351660cb3bf3ee9bef49e4583f2d3853c1f155ae55133"), looks := false }, kinds := [], alts := [], laidByText := true, laidKinds := [.called], laidTests := true, laidLooks := .later }
def PropCmpProductsComparesOrDeclinesCardSaid : Prop := Claim7.holds Tryd.pinned (.plain (OpenSpec.ofChange propCmpProductsComparesOrDeclinesSpec)) propCmpProductsComparesOrDeclinesCard
end Rows
end Go.Proofs.Qxb6003404aDoor
