/-
  NARROWER THAN 'FOR EVERY INPUT', by the rows' own cells (each row's printed sentence says how): PropDigits64CountsDigits: laid · PropCmpSmallComparesScaled: laid · PropCmpProductsComparesOrDeclines: laid.
  DERIVED. THE GIVEN ROWS OF THIS SEAT. 3 by the template 'for every input the law returns true; each argument reads behind the call as it read before'; 0 by the template 'total and deterministic' (their statements: Qxb6003404aDoorTotals.lean).
  GIVEN WITH THE SEED: the statements are not yours to turn. If you find one false, say at which input.
  Laid BY PROGRAM, IN A SANDBOX (cutbox-rows.mjs): the forced cells as the released guide's own fill.sh prints them over the translation b8eaa5351e24b6fb… (all of the seat's roots in one cut). By AI agents, Wed Nov 11 2026. No macro, syntax, notation, axiom, sorry.
-/
import Derived.Test.Qxb6003404aDoorChecked
import GoSem.Claim
import GoSem.ClaimJoined
import GoSem.ClaimMapViews
import Derived.JoinedTies
import Derived.KernelRfl
namespace Go.Proofs.Qxb6003404aDoor
/- THE CELL 'sum', in the pinned program and in every row, IS THE sha256 OF THE DUMP (.gsa) THAT Qxb6003404aDoorProg.lean LOADS. Nothing in Lean hashes anything: it is a label: what it is worth is what the hold of that sum in a sandbox is worth. -/
noncomputable def Tryd.pinned : Pinned := { name := "qxb6003404adoor", sum := "b8eaa5351e24b6fbe0076b769b2629eedcd0a18f27f9c4c21bdceb8d1987bbcc", checked := Tryd.checked }
namespace Rows
def none {H : Type} : Left H := { results := [], args := [] }

/- WHAT THE LISTED PACKAGE-LEVEL VARIABLES READ AS WHEN THE CALL BEGINS. Each datum BY PROGRAM (the guide's laid-datum.mjs) off the statement by which the dump's own 'gosem.cut.vars' lays the variable. In a bare row this is a premise. The card (Qxb6003404aDoorCards.lean) ties it to the program's text. -/
def laid_example_com_resolvent_resolvent_decimal_pow10Small {H : Type} : DataW H := .agg [.lit (.int .u64 1), .lit (.int .u64 10), .lit (.int .u64 100), .lit (.int .u64 1000), .lit (.int .u64 10000), .lit (.int .u64 100000), .lit (.int .u64 1000000), .lit (.int .u64 10000000), .lit (.int .u64 100000000), .lit (.int .u64 1000000000), .lit (.int .u64 10000000000), .lit (.int .u64 100000000000), .lit (.int .u64 1000000000000), .lit (.int .u64 10000000000000), .lit (.int .u64 100000000000000), .lit (.int .u64 1000000000000000), .lit (.int .u64 10000000000000000), .lit (.int .u64 100000000000000000), .lit (.int .u64 1000000000000000000), .lit (.int .u64 10000000000000000000)]

/-- 'zzlaws_decimal_c1.PropDigits64CountsDigits': WHATEVER THE INPUT: true; the input reads as it did. -/
def propDigits64CountsDigitsSpec : ChangeSpec := { name := "propDigits64CountsDigits", vars := ["example.com/resolvent/resolvent/decimal.pow10Small"], fn := fun _ => fun
  | [d, g1] => { results := [.lit (.bool true)], args := [d], vars := [g1] }
  | _ => none }
def propDigits64CountsDigitsRow : OpenClaim := { program := "qxb6003404adoor", sum := "b8eaa5351e24b6fbe0076b769b2629eedcd0a18f27f9c4c21bdceb8d1987bbcc", func := "example.com/resolvent/resolvent/zzlaws_decimal_c1.PropDigits64CountsDigits", spec := "propDigits64CountsDigits", named := ["example.com/resolvent/resolvent/decimal.pow10Small"], apart := false, laid := [("example.com/resolvent/resolvent/decimal.pow10Small", laid_example_com_resolvent_resolvent_decimal_pow10Small)] }
def PropDigits64CountsDigitsSaid : Prop := propDigits64CountsDigitsRow.holds Tryd.pinned (OpenSpec.ofChange propDigits64CountsDigitsSpec)

/-- ITS FALSE NEIGHBOUR: 'it returns false'. Refute it at one input. -/
def propDigits64CountsDigitsWrong : ChangeSpec := { name := "propDigits64CountsDigits", vars := ["example.com/resolvent/resolvent/decimal.pow10Small"], fn := fun _ => fun
  | [d, g1] => { results := [.lit (.bool false)], args := [d], vars := [g1] }
  | _ => none }
def PropDigits64CountsDigitsWrongFalsely : Prop := propDigits64CountsDigitsRow.holds Tryd.pinned (OpenSpec.ofChange propDigits64CountsDigitsWrong)

/-- 'zzlaws_decimal_c1.PropCmpSmallComparesScaled': WHATEVER THE INPUT: true; the input reads as it did. -/
def propCmpSmallComparesScaledSpec : ChangeSpec := { name := "propCmpSmallComparesScaled", vars := ["example.com/resolvent/resolvent/decimal.pow10Small"], fn := fun _ => fun
  | [d1, d2, d3, d4, g1] => { results := [.lit (.bool true)], args := [d1, d2, d3, d4], vars := [g1] }
  | _ => none }
def propCmpSmallComparesScaledRow : OpenClaim := { program := "qxb6003404adoor", sum := "b8eaa5351e24b6fbe0076b769b2629eedcd0a18f27f9c4c21bdceb8d1987bbcc", func := "example.com/resolvent/resolvent/zzlaws_decimal_c1.PropCmpSmallComparesScaled", spec := "propCmpSmallComparesScaled", named := ["example.com/resolvent/resolvent/decimal.pow10Small"], apart := false, laid := [("example.com/resolvent/resolvent/decimal.pow10Small", laid_example_com_resolvent_resolvent_decimal_pow10Small)] }
def PropCmpSmallComparesScaledSaid : Prop := propCmpSmallComparesScaledRow.holds Tryd.pinned (OpenSpec.ofChange propCmpSmallComparesScaledSpec)

/-- ITS FALSE NEIGHBOUR: 'it returns false'. Refute it at one input. -/
def propCmpSmallComparesScaledWrong : ChangeSpec := { name := "propCmpSmallComparesScaled", vars := ["example.com/resolvent/resolvent/decimal.pow10Small"], fn := fun _ => fun
  | [d1, d2, d3, d4, g1] => { results := [.lit (.bool false)], args := [d1, d2, d3, d4], vars := [g1] }
  | _ => none }
def PropCmpSmallComparesScaledWrongFalsely : Prop := propCmpSmallComparesScaledRow.holds Tryd.pinned (OpenSpec.ofChange propCmpSmallComparesScaledWrong)

/-- 'zzlaws_decimal_c1.PropCmpProductsComparesOrDeclines': WHATEVER THE INPUT: true; the input reads as it did. -/
def propCmpProductsComparesOrDeclinesSpec : ChangeSpec := { name := "propCmpProductsComparesOrDeclines", vars := ["example.com/resolvent/resolvent/decimal.pow10Small"], fn := fun _ => fun
  | [d1, d2, d3, d4, d5, d6, g1] => { results := [.lit (.bool true)], args := [d1, d2, d3, d4, d5, d6], vars := [g1] }
  | _ => none }
def propCmpProductsComparesOrDeclinesRow : OpenClaim := { program := "qxb6003404adoor", sum := "b8eaa5351e24b6fbe0076b769b2629eedcd0a18f27f9c4c21bdceb8d1987bbcc", func := "example.com/resolvent/resolvent/zzlaws_decimal_c1.PropCmpProductsComparesOrDeclines", spec := "propCmpProductsComparesOrDeclines", inPlace := ["math/bits.Add64"], named := ["example.com/resolvent/resolvent/decimal.pow10Small"], apart := false, laid := [("example.com/resolvent/resolvent/decimal.pow10Small", laid_example_com_resolvent_resolvent_decimal_pow10Small)] }
def PropCmpProductsComparesOrDeclinesSaid : Prop := propCmpProductsComparesOrDeclinesRow.holds Tryd.pinned (OpenSpec.ofChange propCmpProductsComparesOrDeclinesSpec)

/-- ITS FALSE NEIGHBOUR: 'it returns false'. Refute it at one input. -/
def propCmpProductsComparesOrDeclinesWrong : ChangeSpec := { name := "propCmpProductsComparesOrDeclines", vars := ["example.com/resolvent/resolvent/decimal.pow10Small"], fn := fun _ => fun
  | [d1, d2, d3, d4, d5, d6, g1] => { results := [.lit (.bool false)], args := [d1, d2, d3, d4, d5, d6], vars := [g1] }
  | _ => none }
def PropCmpProductsComparesOrDeclinesWrongFalsely : Prop := propCmpProductsComparesOrDeclinesRow.holds Tryd.pinned (OpenSpec.ofChange propCmpProductsComparesOrDeclinesWrong)

end Rows
end Go.Proofs.Qxb6003404aDoor
