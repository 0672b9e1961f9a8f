import Derived.Test.Qxb6001185aRows
import Derived.Test.Qxb6001185aPlain
import Derived.WalkKit
import Derived.WalkSpells
import Derived.WalkLawsBesides
import Derived.Lib.Bytealg
import Derived.Lib.IndexBytes
import Derived.Deep.QuietTactic
import Derived.BigQuiet
namespace Go.Proofs.Qxb6001185a
open Go.RowKit
set_option linter.unusedVariables false

set_option maxHeartbeats 400000 in
/-- internal/stringslite.IndexByte -/
theorem indexByte_any (s : ByteArray) (c : Int) (w : World) :
    Calls Try.prog 27 #[.string s, .int .u8 c] w fun e w' => e = .returned (.int .i64 (Lib.indexByte s.data.toList c.toNat.toUInt8)) ∧ w' = w := by
  go_enter Try.func27, Try.ntmps27
  go_wp2
  rw [run_callFunc_extern Try.func31 (by kernel_rfl) (by kernel_rfl) (by kernel_rfl) (e := Extern.BytealgIndexByte.indexByte) (by kernel_rfl), Lib.run_indexByteString]
  simp only [Result.andThen]
  rw [Oper.upon_value]
  go_wp2
  go_ret
  exact ⟨rfl, rfl⟩

theorem toList_eq (s : ByteArray) : s.toList = s.data.toList := Lib.toList_data s

set_option maxHeartbeats 400000 in
/-- internal/stringslite.Index at a blank. -/
theorem index_blank (s : ByteArray) (w : World) :
    Calls Try.prog 26 #[.string s, .string ⟨#[32]⟩] w fun e w' => e = .returned (.int .i64 (Lib.indexByte s.data.toList 32)) ∧ w' = w := by
  by_cases hs : ([32] == s.toList) = true
  · have e : Lib.indexByte s.data.toList 32 = 0 := by
      have h1 : [32] = s.toList := by simpa using hs
      rw [← toList_eq, ← h1]; decide
    rw [e]
    clear e
    go_enter Try.func26, Try.ntmps26
    go_wp2
    go_ret
    exact ⟨rfl, rfl⟩
  · have hs' : ([32] == s.toList) = false := by simpa using hs
    clear hs
    go_enter Try.func26, Try.ntmps26
    go_wp2_with fail
    refine (indexByte_any s 32 w).mono ?_
    rintro e w' ⟨rfl, rfl⟩
    go_wp2
    go_ret
    exact ⟨rfl, rfl⟩

set_option maxHeartbeats 400000 in
/-- internal/stringslite.Cut at a blank that is there. -/
theorem slcut_at (s : ByteArray) (a b : List UInt8) (hs : s.data.toList = a ++ 32 :: b) (ha : (32 : UInt8) ∉ a) (hb : s.size ≤ 1048576) (w : World) :
    Calls Try.prog 25 #[.string s, .string ⟨#[32]⟩] w fun e w' => ∃ A B : ByteArray, e = .returned (.tuple #[.string A, .string B, .bool true]) ∧ A.data.toList = a ∧ B.data.toList = b ∧ ∃ n, w' = w.drewN n := by
  have hix : Lib.indexByte s.data.toList 32 = a.length := by rw [hs]; exact ix_at 32 b a ha
  have hlen : s.size = a.length + (b.length + 1) := by
    have := congrArg List.length hs
    simpa using this
  have hA : (s.extract 0 a.length).data.toList = a := by rw [Lib.extract_data, hs]; simp
  have hB : (s.extract (a.length + 1) s.size).data.toList = b := by rw [Lib.extract_to_end, hs]; simp
  have HS : Hid ((s.extract 0 a.length).data.toList = a ∧ (s.extract (a.length + 1) s.size).data.toList = b) := ⟨hA, hB⟩
  have HI : Hid (Lib.indexByte s.data.toList 32 = a.length) := hix
  have hl1 : a.length + 1 ≤ s.size := by omega
  clear hs hA hB hix hlen ha
  generalize a.length = k at *
  go_enter Try.func25, Try.ntmps25
  go_wp2_with fail
  refine (index_blank s w).mono ?_
  rintro e w' ⟨rfl, rfl⟩
  rw [HI.out]
  go_wp2
  go_quiet (fail)
  go_wp2
  go_ret3
  exact ⟨_, _, rfl, HS.out.1, HS.out.2, _, rfl⟩

set_option maxHeartbeats 400000 in
/-- strings.Cut at a blank that is there. -/
theorem cut_at (s : ByteArray) (a b : List UInt8) (hs : s.data.toList = a ++ 32 :: b) (ha : (32 : UInt8) ∉ a) (hb : s.size ≤ 1048576) (w : World) :
    Calls Try.prog 24 #[.string s, .string ⟨#[32]⟩] w fun e w' => ∃ A B : ByteArray, e = .returned (.tuple #[.string A, .string B, .bool true]) ∧ A.data.toList = a ∧ B.data.toList = b ∧ ∃ n, w' = w.drewN n := by
  have H : Hid (s.data.toList = a ++ 32 :: b) := hs
  clear hs
  go_enter Try.func24, Try.ntmps24
  go_wp2_with fail
  refine (slcut_at s a b H.out ha hb w).mono ?_
  rintro e w' ⟨A, B, rfl, hA, hB, n, rfl⟩
  have HH : Hid (A.data.toList = a ∧ B.data.toList = b) := ⟨hA, hB⟩
  clear hA hB H
  go_wp2
  go_ret3
  exact ⟨_, _, rfl, HH.out.1, HH.out.2, _, rfl⟩

end Go.Proofs.Qxb6001185a
