/-
  No cell of these rows narrows 'for every input' (looked for: loops, veiled, ifaces, maps, wideKeys, modest, calm, conditions, laid).
  DERIVED. THE GIVEN ROWS OF THIS SEAT. 7 by the template 'for every input the law returns true; each argument reads behind the call as it read before'; 0 by the template 'total and deterministic' (their statements: Qxb6001292aTotals.lean).
  GIVEN WITH THE SEED: the statements are not yours to turn. If you find one false, say at which input.
  Laid BY PROGRAM, IN A SANDBOX (cutbox-rows.mjs): the forced cells as the released guide's own fill.sh prints them over the translation a981968be125c50c… (all of the seat's roots in one cut). By AI agents, Wed Nov 11 2026. No macro, syntax, notation, axiom, sorry.
-/
import Derived.Test.Qxb6001292aChecked
import GoSem.Claim
import GoSem.ClaimJoined
import GoSem.ClaimMapViews
import Derived.JoinedTies
import Derived.KernelRfl
namespace Go.Proofs.Qxb6001292a
/- THE CELL 'sum', in the pinned program and in every row, IS THE sha256 OF THE DUMP (.gsa) THAT Qxb6001292aProg.lean LOADS. Nothing in Lean hashes anything: it is a label: what it is worth is what the hold of that sum in a sandbox is worth. -/
noncomputable def Try.pinned : Pinned := { name := "qxb6001292a", sum := "a981968be125c50c2d74cb802b07afebd1fb6add6d8b6f9a82eb92e5ddad7f2c", checked := Try.checked }
namespace Rows
def none {H : Type} : Left H := { results := [], args := [] }

/-- 'zzlaws_internal_clause_b1.FnConverseIsInvolution': WHATEVER THE INPUT: true; the input reads as it did. -/
def fnConverseIsInvolutionSpec : ChangeSpec := { name := "fnConverseIsInvolution", fn := fun _ => fun
  | [d] => { results := [.lit (.bool true)], args := [d] }
  | _ => none }
def fnConverseIsInvolutionRow : OpenClaim := { program := "qxb6001292a", sum := "a981968be125c50c2d74cb802b07afebd1fb6add6d8b6f9a82eb92e5ddad7f2c", func := "example.com/riddlecart/riddlecart/zzlaws_internal_clause_b1.FnConverseIsInvolution", spec := "fnConverseIsInvolution", apart := false }
def FnConverseIsInvolutionSaid : Prop := fnConverseIsInvolutionRow.holds Try.pinned (OpenSpec.ofChange fnConverseIsInvolutionSpec)

/-- ITS FALSE NEIGHBOUR: 'it returns false'. Refute it at one input. -/
def fnConverseIsInvolutionWrong : ChangeSpec := { name := "fnConverseIsInvolution", fn := fun _ => fun
  | [d] => { results := [.lit (.bool false)], args := [d] }
  | _ => none }
def FnConverseIsInvolutionWrongFalsely : Prop := fnConverseIsInvolutionRow.holds Try.pinned (OpenSpec.ofChange fnConverseIsInvolutionWrong)

/-- 'zzlaws_internal_clause_b1.FnConverseSwapsOperands': WHATEVER THE INPUT: true; the input reads as it did. -/
def fnConverseSwapsOperandsSpec : ChangeSpec := { name := "fnConverseSwapsOperands", fn := fun _ => fun
  | [d1, d2, d3] => { results := [.lit (.bool true)], args := [d1, d2, d3] }
  | _ => none }
def fnConverseSwapsOperandsRow : OpenClaim := { program := "qxb6001292a", sum := "a981968be125c50c2d74cb802b07afebd1fb6add6d8b6f9a82eb92e5ddad7f2c", func := "example.com/riddlecart/riddlecart/zzlaws_internal_clause_b1.FnConverseSwapsOperands", spec := "fnConverseSwapsOperands", apart := false }
def FnConverseSwapsOperandsSaid : Prop := fnConverseSwapsOperandsRow.holds Try.pinned (OpenSpec.ofChange fnConverseSwapsOperandsSpec)

/-- ITS FALSE NEIGHBOUR: 'it returns false'. Refute it at one input. -/
def fnConverseSwapsOperandsWrong : ChangeSpec := { name := "fnConverseSwapsOperands", fn := fun _ => fun
  | [d1, d2, d3] => { results := [.lit (.bool false)], args := [d1, d2, d3] }
  | _ => none }
def FnConverseSwapsOperandsWrongFalsely : Prop := fnConverseSwapsOperandsRow.holds Try.pinned (OpenSpec.ofChange fnConverseSwapsOperandsWrong)

/-- 'zzlaws_internal_clause_b1.FnUnquoteInvertsQuote': WHATEVER THE INPUT: true; the input reads as it did. -/
def fnUnquoteInvertsQuoteSpec : ChangeSpec := { name := "fnUnquoteInvertsQuote", fn := fun _ => fun
  | [d1, d2, d3, d4] => { results := [.lit (.bool true)], args := [d1, d2, d3, d4] }
  | _ => none }
def fnUnquoteInvertsQuoteRow : OpenClaim := { program := "qxb6001292a", sum := "a981968be125c50c2d74cb802b07afebd1fb6add6d8b6f9a82eb92e5ddad7f2c", func := "example.com/riddlecart/riddlecart/zzlaws_internal_clause_b1.FnUnquoteInvertsQuote", spec := "fnUnquoteInvertsQuote", inPlace := ["internal/bytealg.IndexByteString"], apart := false }
def FnUnquoteInvertsQuoteSaid : Prop := fnUnquoteInvertsQuoteRow.holds Try.pinned (OpenSpec.ofChange fnUnquoteInvertsQuoteSpec)

/-- ITS FALSE NEIGHBOUR: 'it returns false'. Refute it at one input. -/
def fnUnquoteInvertsQuoteWrong : ChangeSpec := { name := "fnUnquoteInvertsQuote", fn := fun _ => fun
  | [d1, d2, d3, d4] => { results := [.lit (.bool false)], args := [d1, d2, d3, d4] }
  | _ => none }
def FnUnquoteInvertsQuoteWrongFalsely : Prop := fnUnquoteInvertsQuoteRow.holds Try.pinned (OpenSpec.ofChange fnUnquoteInvertsQuoteWrong)

/-- 'zzlaws_internal_clause_b1.FnUnquoteIgnoresWhatFollows': WHATEVER THE INPUT: true; the input reads as it did. -/
def fnUnquoteIgnoresWhatFollowsSpec : ChangeSpec := { name := "fnUnquoteIgnoresWhatFollows", fn := fun _ => fun
  | [d1, d2, d3] => { results := [.lit (.bool true)], args := [d1, d2, d3] }
  | _ => none }
def fnUnquoteIgnoresWhatFollowsRow : OpenClaim := { program := "qxb6001292a", sum := "a981968be125c50c2d74cb802b07afebd1fb6add6d8b6f9a82eb92e5ddad7f2c", func := "example.com/riddlecart/riddlecart/zzlaws_internal_clause_b1.FnUnquoteIgnoresWhatFollows", spec := "fnUnquoteIgnoresWhatFollows", inPlace := ["internal/bytealg.IndexByteString"], apart := false }
def FnUnquoteIgnoresWhatFollowsSaid : Prop := fnUnquoteIgnoresWhatFollowsRow.holds Try.pinned (OpenSpec.ofChange fnUnquoteIgnoresWhatFollowsSpec)

/-- ITS FALSE NEIGHBOUR: 'it returns false'. Refute it at one input. -/
def fnUnquoteIgnoresWhatFollowsWrong : ChangeSpec := { name := "fnUnquoteIgnoresWhatFollows", fn := fun _ => fun
  | [d1, d2, d3] => { results := [.lit (.bool false)], args := [d1, d2, d3] }
  | _ => none }
def FnUnquoteIgnoresWhatFollowsWrongFalsely : Prop := fnUnquoteIgnoresWhatFollowsRow.holds Try.pinned (OpenSpec.ofChange fnUnquoteIgnoresWhatFollowsWrong)

/-- 'zzlaws_internal_clause_b1.FnUnquoteStaysWithinItsText': WHATEVER THE INPUT: true; the input reads as it did. -/
def fnUnquoteStaysWithinItsTextSpec : ChangeSpec := { name := "fnUnquoteStaysWithinItsText", fn := fun _ => fun
  | [d1, d2] => { results := [.lit (.bool true)], args := [d1, d2] }
  | _ => none }
def fnUnquoteStaysWithinItsTextRow : OpenClaim := { program := "qxb6001292a", sum := "a981968be125c50c2d74cb802b07afebd1fb6add6d8b6f9a82eb92e5ddad7f2c", func := "example.com/riddlecart/riddlecart/zzlaws_internal_clause_b1.FnUnquoteStaysWithinItsText", spec := "fnUnquoteStaysWithinItsText", inPlace := ["internal/bytealg.IndexByteString"], apart := false }
def FnUnquoteStaysWithinItsTextSaid : Prop := fnUnquoteStaysWithinItsTextRow.holds Try.pinned (OpenSpec.ofChange fnUnquoteStaysWithinItsTextSpec)

/-- ITS FALSE NEIGHBOUR: 'it returns false'. Refute it at one input. -/
def fnUnquoteStaysWithinItsTextWrong : ChangeSpec := { name := "fnUnquoteStaysWithinItsText", fn := fun _ => fun
  | [d1, d2] => { results := [.lit (.bool false)], args := [d1, d2] }
  | _ => none }
def FnUnquoteStaysWithinItsTextWrongFalsely : Prop := fnUnquoteStaysWithinItsTextRow.holds Try.pinned (OpenSpec.ofChange fnUnquoteStaysWithinItsTextWrong)

/-- 'zzlaws_internal_clause_b1.FnLiteralReadsNumbersExactly': WHATEVER THE INPUT: true; the input reads as it did. -/
def fnLiteralReadsNumbersExactlySpec : ChangeSpec := { name := "fnLiteralReadsNumbersExactly", fn := fun _ => fun
  | [d1, d2] => { results := [.lit (.bool true)], args := [d1, d2] }
  | _ => none }
def fnLiteralReadsNumbersExactlyRow : OpenClaim := { program := "qxb6001292a", sum := "a981968be125c50c2d74cb802b07afebd1fb6add6d8b6f9a82eb92e5ddad7f2c", func := "example.com/riddlecart/riddlecart/zzlaws_internal_clause_b1.FnLiteralReadsNumbersExactly", spec := "fnLiteralReadsNumbersExactly", apart := false }
def FnLiteralReadsNumbersExactlySaid : Prop := fnLiteralReadsNumbersExactlyRow.holds Try.pinned (OpenSpec.ofChange fnLiteralReadsNumbersExactlySpec)

/-- ITS FALSE NEIGHBOUR: 'it returns false'. Refute it at one input. -/
def fnLiteralReadsNumbersExactlyWrong : ChangeSpec := { name := "fnLiteralReadsNumbersExactly", fn := fun _ => fun
  | [d1, d2] => { results := [.lit (.bool false)], args := [d1, d2] }
  | _ => none }
def FnLiteralReadsNumbersExactlyWrongFalsely : Prop := fnLiteralReadsNumbersExactlyRow.holds Try.pinned (OpenSpec.ofChange fnLiteralReadsNumbersExactlyWrong)

/-- 'zzlaws_internal_clause_b1.FnLiteralNumberIgnoresPadding': WHATEVER THE INPUT: true; the input reads as it did. -/
def fnLiteralNumberIgnoresPaddingSpec : ChangeSpec := { name := "fnLiteralNumberIgnoresPadding", fn := fun _ => fun
  | [d1, d2, d3, d4, d5] => { results := [.lit (.bool true)], args := [d1, d2, d3, d4, d5] }
  | _ => none }
def fnLiteralNumberIgnoresPaddingRow : OpenClaim := { program := "qxb6001292a", sum := "a981968be125c50c2d74cb802b07afebd1fb6add6d8b6f9a82eb92e5ddad7f2c", func := "example.com/riddlecart/riddlecart/zzlaws_internal_clause_b1.FnLiteralNumberIgnoresPadding", spec := "fnLiteralNumberIgnoresPadding", apart := false }
def FnLiteralNumberIgnoresPaddingSaid : Prop := fnLiteralNumberIgnoresPaddingRow.holds Try.pinned (OpenSpec.ofChange fnLiteralNumberIgnoresPaddingSpec)

/-- ITS FALSE NEIGHBOUR: 'it returns false'. Refute it at one input. -/
def fnLiteralNumberIgnoresPaddingWrong : ChangeSpec := { name := "fnLiteralNumberIgnoresPadding", fn := fun _ => fun
  | [d1, d2, d3, d4, d5] => { results := [.lit (.bool false)], args := [d1, d2, d3, d4, d5] }
  | _ => none }
def FnLiteralNumberIgnoresPaddingWrongFalsely : Prop := fnLiteralNumberIgnoresPaddingRow.holds Try.pinned (OpenSpec.ofChange fnLiteralNumberIgnoresPaddingWrong)

end Rows
end Go.Proofs.Qxb6001292a
