/-
  No cell of these rows narrows 'for every input' (looked for: loops, veiled, ifaces, maps, wideKeys, modest, calm, conditions, laid).
  DERIVED. THE GIVEN ROWS OF THIS SEAT. 4 by the template 'for every input the law returns true; each argument reads behind the call as it read before'; 0 by the template 'total and deterministic' (their statements: Qxb6003404aTotals.lean).
  GIVEN WITH THE SEED: the statements are not yours to turn. If you find one false, say at which input.
  Laid BY PROGRAM, IN A SANDBOX (cutbox-rows.mjs): the forced cells as the released guide's own fill.sh prints them over the translation 6f4a0e5ef1f27073… (all of the seat's roots in one cut). By AI agents, Wed Nov 11 2026. No macro, syntax, notation, axiom, sorry.
-/
import Derived.Test.Qxb6003404aChecked
import GoSem.Claim
import GoSem.ClaimJoined
import GoSem.ClaimMapViews
import Derived.JoinedTies
import Derived.KernelRfl
namespace Go.Proofs.Qxb6003404a
/- THE CELL 'sum', in the pinned program and in every row, IS THE sha256 OF THE DUMP (.gsa) THAT Qxb6003404aProg.lean LOADS. Nothing in Lean hashes anything: it is a label: what it is worth is what the hold of that sum in a sandbox is worth. -/
noncomputable def Try.pinned : Pinned := { name := "qxb6003404a", sum := "6f4a0e5ef1f270735bd4036db1c41e24491663ae51ce6ad7d808c2550741246d", checked := Try.checked }
namespace Rows
def none {H : Type} : Left H := { results := [], args := [] }

/-- 'zzlaws_decimal_c1.PropMulSmallAddSmallDetectOverflow': WHATEVER THE INPUT: true; the input reads as it did. -/
def propMulSmallAddSmallDetectOverflowSpec : ChangeSpec := { name := "propMulSmallAddSmallDetectOverflow", fn := fun _ => fun
  | [d1, d2] => { results := [.lit (.bool true)], args := [d1, d2] }
  | _ => none }
def propMulSmallAddSmallDetectOverflowRow : OpenClaim := { program := "qxb6003404a", sum := "6f4a0e5ef1f270735bd4036db1c41e24491663ae51ce6ad7d808c2550741246d", func := "example.com/resolvent/resolvent/zzlaws_decimal_c1.PropMulSmallAddSmallDetectOverflow", spec := "propMulSmallAddSmallDetectOverflow", apart := false }
def PropMulSmallAddSmallDetectOverflowSaid : Prop := propMulSmallAddSmallDetectOverflowRow.holds Try.pinned (OpenSpec.ofChange propMulSmallAddSmallDetectOverflowSpec)

/-- ITS FALSE NEIGHBOUR: 'it returns false'. Refute it at one input. -/
def propMulSmallAddSmallDetectOverflowWrong : ChangeSpec := { name := "propMulSmallAddSmallDetectOverflow", fn := fun _ => fun
  | [d1, d2] => { results := [.lit (.bool false)], args := [d1, d2] }
  | _ => none }
def PropMulSmallAddSmallDetectOverflowWrongFalsely : Prop := propMulSmallAddSmallDetectOverflowRow.holds Try.pinned (OpenSpec.ofChange propMulSmallAddSmallDetectOverflowWrong)

/-- 'zzlaws_decimal_c1.PropQuoWordDividesByWord': WHATEVER THE INPUT: true; the input reads as it did. -/
def propQuoWordDividesByWordSpec : ChangeSpec := { name := "propQuoWordDividesByWord", fn := fun _ => fun
  | [d1, d2] => { results := [.lit (.bool true)], args := [d1, d2] }
  | _ => none }
def propQuoWordDividesByWordRow : OpenClaim := { program := "qxb6003404a", sum := "6f4a0e5ef1f270735bd4036db1c41e24491663ae51ce6ad7d808c2550741246d", func := "example.com/resolvent/resolvent/zzlaws_decimal_c1.PropQuoWordDividesByWord", spec := "propQuoWordDividesByWord", inPlace := ["math/bits.Add64"], named := ["math/bits.overflowError", "math/bits.divideError"], apart := false }
def PropQuoWordDividesByWordSaid : Prop := propQuoWordDividesByWordRow.holds Try.pinned (OpenSpec.ofChange propQuoWordDividesByWordSpec)

/-- ITS FALSE NEIGHBOUR: 'it returns false'. Refute it at one input. -/
def propQuoWordDividesByWordWrong : ChangeSpec := { name := "propQuoWordDividesByWord", fn := fun _ => fun
  | [d1, d2] => { results := [.lit (.bool false)], args := [d1, d2] }
  | _ => none }
def PropQuoWordDividesByWordWrongFalsely : Prop := propQuoWordDividesByWordRow.holds Try.pinned (OpenSpec.ofChange propQuoWordDividesByWordWrong)

/-- 'zzlaws_decimal_c2.PropCoefAddAndCompareExact': WHATEVER THE INPUT: true; the input reads as it did. -/
def propCoefAddAndCompareExactSpec : ChangeSpec := { name := "propCoefAddAndCompareExact", fn := fun _ => fun
  | [d1, d2, d3, d4, d5] => { results := [.lit (.bool true)], args := [d1, d2, d3, d4, d5] }
  | _ => none }
def propCoefAddAndCompareExactRow : OpenClaim := { program := "qxb6003404a", sum := "6f4a0e5ef1f270735bd4036db1c41e24491663ae51ce6ad7d808c2550741246d", func := "example.com/resolvent/resolvent/zzlaws_decimal_c2.PropCoefAddAndCompareExact", spec := "propCoefAddAndCompareExact", inPlace := ["math/big.addVV", "math/bits.Add64", "math/big.subVV", "math/bits.Sub64"], recurses := true, apart := false }
def PropCoefAddAndCompareExactSaid : Prop := propCoefAddAndCompareExactRow.holds Try.pinned (OpenSpec.ofChange propCoefAddAndCompareExactSpec)

/-- ITS FALSE NEIGHBOUR: 'it returns false'. Refute it at one input. -/
def propCoefAddAndCompareExactWrong : ChangeSpec := { name := "propCoefAddAndCompareExact", fn := fun _ => fun
  | [d1, d2, d3, d4, d5] => { results := [.lit (.bool false)], args := [d1, d2, d3, d4, d5] }
  | _ => none }
def PropCoefAddAndCompareExactWrongFalsely : Prop := propCoefAddAndCompareExactRow.holds Try.pinned (OpenSpec.ofChange propCoefAddAndCompareExactWrong)

/-- 'zzlaws_decimal_c2.PropWordListArithmetic': WHATEVER THE INPUT: true; the input reads as it did. -/
def propWordListArithmeticSpec : ChangeSpec := { name := "propWordListArithmetic", fn := fun _ => fun
  | [d1, d2] => { results := [.lit (.bool true)], args := [d1, d2] }
  | _ => none }
def propWordListArithmeticRow : OpenClaim := { program := "qxb6003404a", sum := "6f4a0e5ef1f270735bd4036db1c41e24491663ae51ce6ad7d808c2550741246d", func := "example.com/resolvent/resolvent/zzlaws_decimal_c2.PropWordListArithmetic", spec := "propWordListArithmetic", inPlace := ["math/bits.Add64", "math/bits.Sub64"], apart := false }
def PropWordListArithmeticSaid : Prop := propWordListArithmeticRow.holds Try.pinned (OpenSpec.ofChange propWordListArithmeticSpec)

/-- ITS FALSE NEIGHBOUR: 'it returns false'. Refute it at one input. -/
def propWordListArithmeticWrong : ChangeSpec := { name := "propWordListArithmetic", fn := fun _ => fun
  | [d1, d2] => { results := [.lit (.bool false)], args := [d1, d2] }
  | _ => none }
def PropWordListArithmeticWrongFalsely : Prop := propWordListArithmeticRow.holds Try.pinned (OpenSpec.ofChange propWordListArithmeticWrong)

end Rows
end Go.Proofs.Qxb6003404a
