import Derived.Test.Qxb6001040aRows
import Derived.Test.Qxb6001040aPlain
import Derived.WalkKit
import Derived.WalkSpells
import Derived.Lib.Bytealg
import Derived.Deep.QuietTactic
import Derived.BigQuiet
namespace Go.Proofs.Qxb6001040a
open Go.RowKit
set_option linter.unusedVariables false

set_option maxHeartbeats 400000 in
/-- strings.IndexByte -/
theorem indexByte_any (s : ByteArray) (c : Int) (w : World) :
    Calls Try.prog 21 #[.string s, .int .u8 c] w fun e w' => e = .returned (.int .i64 (Lib.indexByte s.data.toList c.toNat.toUInt8)) ∧ w' = w := by
  go_enter Try.func21, Try.ntmps21
  go_wp2
  rw [run_callFunc_extern Try.func24 (by kernel_rfl) (by kernel_rfl) (by kernel_rfl) (e := Extern.BytealgIndexByte.indexByte) (by kernel_rfl), Lib.run_indexByteString]
  simp only [Result.andThen]
  rw [Oper.upon_value]
  go_wp2
  go_ret
  exact ⟨rfl, rfl⟩

set_option maxHeartbeats 400000 in
theorem peek_in (doc : ByteArray) (p b : Nat) (hp : p < doc.size) (hd : doc.size ≤ 1048576) (w : World)
    (h0 : w.cell? ⟨b, 0, none⟩ = some (.string doc)) (h1 : w.cell? ⟨b, 1, none⟩ = some (.int .i64 (p : Int))) :
    Calls Try.prog 20 #[.pointer (some ⟨b, 0, none⟩)] w fun e w' => e = .returned (.int .u8 (doc[p].toNat : Int)) ∧ ∃ n, w' = w.drewN n := by
  go_enter Try.func20, Try.ntmps20
  go_wp2
  go_quiet (fail)
  go_wp2
  go_quiet (fail)
  go_wp2
  go_ret
  refine ⟨rfl, ?_⟩
  simp only [World.drewN_drewN]
  exact ⟨_, rfl⟩

set_option maxHeartbeats 400000 in
theorem peek_end (doc : ByteArray) (b : Nat) (_hd : doc.size ≤ 1048576) (w : World)
    (h0 : w.cell? ⟨b, 0, none⟩ = some (.string doc)) (h1 : w.cell? ⟨b, 1, none⟩ = some (.int .i64 (doc.size : Int))) :
    Calls Try.prog 20 #[.pointer (some ⟨b, 0, none⟩)] w fun e w' => e = .returned (.int .u8 0) ∧ ∃ n, w' = w.drewN n := by
  go_enter Try.func20, Try.ntmps20
  go_wp2
  go_quiet (fail)
  go_wp2
  go_ret
  exact ⟨rfl, _, rfl⟩

end Go.Proofs.Qxb6001040a
