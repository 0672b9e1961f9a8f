/-
  No cell of these rows narrows 'for every input' (looked for: loops, veiled, ifaces, maps, wideKeys, modest, calm, conditions, laid).
  DERIVED. THE GIVEN ROWS OF THIS SEAT. 5 by the template 'for every input the law returns true; each argument reads behind the call as it read before'; 0 by the template 'total and deterministic' (their statements: Qxb6001185aTotals.lean).
  GIVEN WITH THE SEED: the statements are not yours to turn. If you find one false, say at which input.
  Laid BY PROGRAM, IN A SANDBOX (cutbox-rows.mjs): the forced cells as the released guide's own fill.sh prints them over the translation d0f44b01d499a90f… (all of the seat's roots in one cut). By AI agents, Wed Nov 11 2026. No macro, syntax, notation, axiom, sorry.
-/
import Derived.Test.Qxb6001185aChecked
import GoSem.Claim
import GoSem.ClaimJoined
import GoSem.ClaimMapViews
import Derived.JoinedTies
import Derived.KernelRfl
namespace Go.Proofs.Qxb6001185a
/- THE CELL 'sum', in the pinned program and in every row, IS THE sha256 OF THE DUMP (.gsa) THAT Qxb6001185aProg.lean LOADS. Nothing in Lean hashes anything: it is a label: what it is worth is what the hold of that sum in a sandbox is worth. -/
noncomputable def Try.pinned : Pinned := { name := "qxb6001185a", sum := "d0f44b01d499a90f93971668e5bb16bae07de53e2ca17c215ce23b10499b5bb4", checked := Try.checked }
namespace Rows
def none {H : Type} : Left H := { results := [], args := [] }

/-- 'zzlaws_pkg_store_b1.FnIndexEntryRoundTrip': WHATEVER THE INPUT: true; the input reads as it did. -/
def fnIndexEntryRoundTripSpec : ChangeSpec := { name := "fnIndexEntryRoundTrip", fn := fun _ => fun
  | [d1, d2, d3, d4] => { results := [.lit (.bool true)], args := [d1, d2, d3, d4] }
  | _ => none }
def fnIndexEntryRoundTripRow : OpenClaim := { program := "qxb6001185a", sum := "d0f44b01d499a90f93971668e5bb16bae07de53e2ca17c215ce23b10499b5bb4", func := "example.com/tuoguan/tuoguan/zzlaws_pkg_store_b1.FnIndexEntryRoundTrip", spec := "fnIndexEntryRoundTrip", inPlace := ["internal/bytealg.IndexByteString", "internal/bytealg.IndexString"], named := ["internal/bytealg.MaxLen"], apart := false }
def FnIndexEntryRoundTripSaid : Prop := fnIndexEntryRoundTripRow.holds Try.pinned (OpenSpec.ofChange fnIndexEntryRoundTripSpec)

/-- ITS FALSE NEIGHBOUR: 'it returns false'. Refute it at one input. -/
def fnIndexEntryRoundTripWrong : ChangeSpec := { name := "fnIndexEntryRoundTrip", fn := fun _ => fun
  | [d1, d2, d3, d4] => { results := [.lit (.bool false)], args := [d1, d2, d3, d4] }
  | _ => none }
def FnIndexEntryRoundTripWrongFalsely : Prop := fnIndexEntryRoundTripRow.holds Try.pinned (OpenSpec.ofChange fnIndexEntryRoundTripWrong)

/-- 'zzlaws_pkg_store_b1.FnIndexEntryHexCase': WHATEVER THE INPUT: true; the input reads as it did. -/
def fnIndexEntryHexCaseSpec : ChangeSpec := { name := "fnIndexEntryHexCase", fn := fun _ => fun
  | [d1, d2, d3] => { results := [.lit (.bool true)], args := [d1, d2, d3] }
  | _ => none }
def fnIndexEntryHexCaseRow : OpenClaim := { program := "qxb6001185a", sum := "d0f44b01d499a90f93971668e5bb16bae07de53e2ca17c215ce23b10499b5bb4", func := "example.com/tuoguan/tuoguan/zzlaws_pkg_store_b1.FnIndexEntryHexCase", spec := "fnIndexEntryHexCase", inPlace := ["internal/bytealg.IndexByteString", "internal/bytealg.IndexString"], named := ["internal/bytealg.MaxLen"], apart := false }
def FnIndexEntryHexCaseSaid : Prop := fnIndexEntryHexCaseRow.holds Try.pinned (OpenSpec.ofChange fnIndexEntryHexCaseSpec)

/-- ITS FALSE NEIGHBOUR: 'it returns false'. Refute it at one input. -/
def fnIndexEntryHexCaseWrong : ChangeSpec := { name := "fnIndexEntryHexCase", fn := fun _ => fun
  | [d1, d2, d3] => { results := [.lit (.bool false)], args := [d1, d2, d3] }
  | _ => none }
def FnIndexEntryHexCaseWrongFalsely : Prop := fnIndexEntryHexCaseRow.holds Try.pinned (OpenSpec.ofChange fnIndexEntryHexCaseWrong)

/-- 'zzlaws_pkg_store_b1.FnIndexEntryAcceptedShape': WHATEVER THE INPUT: true; the input reads as it did. -/
def fnIndexEntryAcceptedShapeSpec : ChangeSpec := { name := "fnIndexEntryAcceptedShape", fn := fun _ => fun
  | [d] => { results := [.lit (.bool true)], args := [d] }
  | _ => none }
def fnIndexEntryAcceptedShapeRow : OpenClaim := { program := "qxb6001185a", sum := "d0f44b01d499a90f93971668e5bb16bae07de53e2ca17c215ce23b10499b5bb4", func := "example.com/tuoguan/tuoguan/zzlaws_pkg_store_b1.FnIndexEntryAcceptedShape", spec := "fnIndexEntryAcceptedShape", inPlace := ["internal/bytealg.IndexByteString", "internal/bytealg.IndexString"], named := ["internal/bytealg.MaxLen"], apart := false }
def FnIndexEntryAcceptedShapeSaid : Prop := fnIndexEntryAcceptedShapeRow.holds Try.pinned (OpenSpec.ofChange fnIndexEntryAcceptedShapeSpec)

/-- ITS FALSE NEIGHBOUR: 'it returns false'. Refute it at one input. -/
def fnIndexEntryAcceptedShapeWrong : ChangeSpec := { name := "fnIndexEntryAcceptedShape", fn := fun _ => fun
  | [d] => { results := [.lit (.bool false)], args := [d] }
  | _ => none }
def FnIndexEntryAcceptedShapeWrongFalsely : Prop := fnIndexEntryAcceptedShapeRow.holds Try.pinned (OpenSpec.ofChange fnIndexEntryAcceptedShapeWrong)

/-- 'zzlaws_pkg_store_b1.FnIsNameJoin': WHATEVER THE INPUT: true; the input reads as it did. -/
def fnIsNameJoinSpec : ChangeSpec := { name := "fnIsNameJoin", fn := fun _ => fun
  | [d1, d2] => { results := [.lit (.bool true)], args := [d1, d2] }
  | _ => none }
def fnIsNameJoinRow : OpenClaim := { program := "qxb6001185a", sum := "d0f44b01d499a90f93971668e5bb16bae07de53e2ca17c215ce23b10499b5bb4", func := "example.com/tuoguan/tuoguan/zzlaws_pkg_store_b1.FnIsNameJoin", spec := "fnIsNameJoin", apart := false }
def FnIsNameJoinSaid : Prop := fnIsNameJoinRow.holds Try.pinned (OpenSpec.ofChange fnIsNameJoinSpec)

/-- ITS FALSE NEIGHBOUR: 'it returns false'. Refute it at one input. -/
def fnIsNameJoinWrong : ChangeSpec := { name := "fnIsNameJoin", fn := fun _ => fun
  | [d1, d2] => { results := [.lit (.bool false)], args := [d1, d2] }
  | _ => none }
def FnIsNameJoinWrongFalsely : Prop := fnIsNameJoinRow.holds Try.pinned (OpenSpec.ofChange fnIsNameJoinWrong)

/-- 'zzlaws_pkg_store_b1.FnIsNameSafe': WHATEVER THE INPUT: true; the input reads as it did. -/
def fnIsNameSafeSpec : ChangeSpec := { name := "fnIsNameSafe", fn := fun _ => fun
  | [d] => { results := [.lit (.bool true)], args := [d] }
  | _ => none }
def fnIsNameSafeRow : OpenClaim := { program := "qxb6001185a", sum := "d0f44b01d499a90f93971668e5bb16bae07de53e2ca17c215ce23b10499b5bb4", func := "example.com/tuoguan/tuoguan/zzlaws_pkg_store_b1.FnIsNameSafe", spec := "fnIsNameSafe", apart := false }
def FnIsNameSafeSaid : Prop := fnIsNameSafeRow.holds Try.pinned (OpenSpec.ofChange fnIsNameSafeSpec)

/-- ITS FALSE NEIGHBOUR: 'it returns false'. Refute it at one input. -/
def fnIsNameSafeWrong : ChangeSpec := { name := "fnIsNameSafe", fn := fun _ => fun
  | [d] => { results := [.lit (.bool false)], args := [d] }
  | _ => none }
def FnIsNameSafeWrongFalsely : Prop := fnIsNameSafeRow.holds Try.pinned (OpenSpec.ofChange fnIsNameSafeWrong)

end Rows
end Go.Proofs.Qxb6001185a
