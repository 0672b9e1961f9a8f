/-
  No cell of these rows narrows 'for every input' (looked for: loops, veiled, ifaces, maps, wideKeys, modest, calm, conditions, laid).
  DERIVED. THE GIVEN ROWS OF THIS SEAT. 3 by the template 'for every input the law returns true; each argument reads behind the call as it read before'; 0 by the template 'total and deterministic' (their statements: Qxb6001539aTotals.lean).
  GIVEN WITH THE SEED: the statements are not yours to turn. If you find one false, say at which input.
  Laid BY PROGRAM, IN A SANDBOX (cutbox-rows.mjs): the forced cells as the released guide's own fill.sh prints them over the translation 721a7e65f5af66dd… (all of the seat's roots in one cut). By AI agents, Wed Nov 11 2026. No macro, syntax, notation, axiom, sorry.
-/
import Derived.Test.Qxb6001539aChecked
import GoSem.Claim
import GoSem.ClaimJoined
import GoSem.ClaimMapViews
import Derived.JoinedTies
import Derived.KernelRfl
namespace Go.Proofs.Qxb6001539a
/- THE CELL 'sum', in the pinned program and in every row, IS THE sha256 OF THE DUMP (.gsa) THAT Qxb6001539aProg.lean LOADS. Nothing in Lean hashes anything: it is a label: what it is worth is what the hold of that sum in a sandbox is worth. -/
noncomputable def Try.pinned : Pinned := { name := "qxb6001539a", sum := "721a7e65f5af66dd0a3c038edb7af2f33a71dc92093059cd027fbe9099dae0a1", checked := Try.checked }
namespace Rows
def none {H : Type} : Left H := { results := [], args := [] }

/-- 'zzlaws_internal_tomlfile_b1.FnSkipStringMatchesCloseModel': WHATEVER THE INPUT: true; the input reads as it did. -/
def fnSkipStringMatchesCloseModelSpec : ChangeSpec := { name := "fnSkipStringMatchesCloseModel", fn := fun _ => fun
  | [d1, d2, d3, d4] => { results := [.lit (.bool true)], args := [d1, d2, d3, d4] }
  | _ => none }
def fnSkipStringMatchesCloseModelRow : OpenClaim := { program := "qxb6001539a", sum := "721a7e65f5af66dd0a3c038edb7af2f33a71dc92093059cd027fbe9099dae0a1", func := "example.com/vestwright/vestwright/zzlaws_internal_tomlfile_b1.FnSkipStringMatchesCloseModel", spec := "fnSkipStringMatchesCloseModel", inPlace := ["internal/bytealg.CountString", "internal/bytealg.IndexByteString", "internal/bytealg.IndexString"], named := ["internal/bytealg.MaxLen"], apart := false }
def FnSkipStringMatchesCloseModelSaid : Prop := fnSkipStringMatchesCloseModelRow.holds Try.pinned (OpenSpec.ofChange fnSkipStringMatchesCloseModelSpec)

/-- ITS FALSE NEIGHBOUR: 'it returns false'. Refute it at one input. -/
def fnSkipStringMatchesCloseModelWrong : ChangeSpec := { name := "fnSkipStringMatchesCloseModel", fn := fun _ => fun
  | [d1, d2, d3, d4] => { results := [.lit (.bool false)], args := [d1, d2, d3, d4] }
  | _ => none }
def FnSkipStringMatchesCloseModelWrongFalsely : Prop := fnSkipStringMatchesCloseModelRow.holds Try.pinned (OpenSpec.ofChange fnSkipStringMatchesCloseModelWrong)

/-- 'zzlaws_internal_tomlfile_b1.FnSkipStringCountsLinesCrossed': WHATEVER THE INPUT: true; the input reads as it did. -/
def fnSkipStringCountsLinesCrossedSpec : ChangeSpec := { name := "fnSkipStringCountsLinesCrossed", fn := fun _ => fun
  | [d1, d2, d3, d4] => { results := [.lit (.bool true)], args := [d1, d2, d3, d4] }
  | _ => none }
def fnSkipStringCountsLinesCrossedRow : OpenClaim := { program := "qxb6001539a", sum := "721a7e65f5af66dd0a3c038edb7af2f33a71dc92093059cd027fbe9099dae0a1", func := "example.com/vestwright/vestwright/zzlaws_internal_tomlfile_b1.FnSkipStringCountsLinesCrossed", spec := "fnSkipStringCountsLinesCrossed", inPlace := ["internal/bytealg.CountString", "internal/bytealg.IndexByteString", "internal/bytealg.IndexString"], named := ["internal/bytealg.MaxLen"], apart := false }
def FnSkipStringCountsLinesCrossedSaid : Prop := fnSkipStringCountsLinesCrossedRow.holds Try.pinned (OpenSpec.ofChange fnSkipStringCountsLinesCrossedSpec)

/-- ITS FALSE NEIGHBOUR: 'it returns false'. Refute it at one input. -/
def fnSkipStringCountsLinesCrossedWrong : ChangeSpec := { name := "fnSkipStringCountsLinesCrossed", fn := fun _ => fun
  | [d1, d2, d3, d4] => { results := [.lit (.bool false)], args := [d1, d2, d3, d4] }
  | _ => none }
def FnSkipStringCountsLinesCrossedWrongFalsely : Prop := fnSkipStringCountsLinesCrossedRow.holds Try.pinned (OpenSpec.ofChange fnSkipStringCountsLinesCrossedWrong)

/-- 'zzlaws_internal_tomlfile_b1.FnSkipStringStaysInSourceAndProgresses': WHATEVER THE INPUT: true; the input reads as it did. -/
def fnSkipStringStaysInSourceAndProgressesSpec : ChangeSpec := { name := "fnSkipStringStaysInSourceAndProgresses", fn := fun _ => fun
  | [d1, d2, d3, d4] => { results := [.lit (.bool true)], args := [d1, d2, d3, d4] }
  | _ => none }
def fnSkipStringStaysInSourceAndProgressesRow : OpenClaim := { program := "qxb6001539a", sum := "721a7e65f5af66dd0a3c038edb7af2f33a71dc92093059cd027fbe9099dae0a1", func := "example.com/vestwright/vestwright/zzlaws_internal_tomlfile_b1.FnSkipStringStaysInSourceAndProgresses", spec := "fnSkipStringStaysInSourceAndProgresses", inPlace := ["internal/bytealg.CountString", "internal/bytealg.IndexByteString", "internal/bytealg.IndexString"], named := ["internal/bytealg.MaxLen"], apart := false }
def FnSkipStringStaysInSourceAndProgressesSaid : Prop := fnSkipStringStaysInSourceAndProgressesRow.holds Try.pinned (OpenSpec.ofChange fnSkipStringStaysInSourceAndProgressesSpec)

/-- ITS FALSE NEIGHBOUR: 'it returns false'. Refute it at one input. -/
def fnSkipStringStaysInSourceAndProgressesWrong : ChangeSpec := { name := "fnSkipStringStaysInSourceAndProgresses", fn := fun _ => fun
  | [d1, d2, d3, d4] => { results := [.lit (.bool false)], args := [d1, d2, d3, d4] }
  | _ => none }
def FnSkipStringStaysInSourceAndProgressesWrongFalsely : Prop := fnSkipStringStaysInSourceAndProgressesRow.holds Try.pinned (OpenSpec.ofChange fnSkipStringStaysInSourceAndProgressesWrong)

end Rows
end Go.Proofs.Qxb6001539a
