import Derived.Test.Qxb6001539aRows
import Derived.Test.Qxb6001539aPlain
import Derived.WalkKit
import Derived.WalkSpells
import Derived.WalkLawsBesides
import Derived.Lib.Bytealg
import Derived.Lib.IndexBytes
import Derived.Deep.QuietTactic
import Derived.BigQuiet
namespace Go.Proofs.Qxb6001539a
open Go.RowKit
set_option linter.unusedVariables false

set_option maxHeartbeats 400000 in
/-- strings.Count at a line end. -/
theorem count_any (s : ByteArray) (w : World) :
    Calls Try.prog 17 #[.string s, .string ⟨#[10]⟩] w fun e w' => e = .returned (.int .i64 (Lib.countByte s.data.toList 10 : Nat)) ∧ w' = w := by
  go_enter Try.func17, Try.ntmps17
  go_wp2
  rw [run_callFunc_extern Try.func20 (by kernel_rfl) (by kernel_rfl) (by kernel_rfl) (e := Extern.BytealgCount.count) (by kernel_rfl), Lib.run_countString]
  simp only [Result.andThen]
  rw [Oper.upon_value]
  go_wp2
  go_ret
  exact ⟨rfl, rfl⟩

set_option maxHeartbeats 400000 in
/-- strings.HasPrefix -/
theorem prefix_any (s p : ByteArray) (hs : s.size ≤ 1048576) (hp : p.size ≤ 1048576) (w : World) :
    Calls Try.prog 16 #[.string s, .string p] w fun e w' => e = .returned (.bool (p.data.toList.isPrefixOf s.data.toList)) ∧ w' = w := by
  have hraw := Lib.hasPrefix_raw s p
  unfold Lib.hasPrefix at hraw
  have HR : Hid ((decide (p.size ≤ s.size) && ((s.extract 0 p.size).toList == p.toList)) = p.data.toList.isPrefixOf s.data.toList) := hraw
  clear hraw
  by_cases h : p.size ≤ s.size
  · have HR2 : Hid (p.data.toList.isPrefixOf s.data.toList = ((s.extract 0 p.size).toList == p.toList)) := by show _ = _; rw [← HR.out]; simp [h]
    rw [HR2.out]
    clear HR HR2
    go_enter Try.func16, Try.ntmps16
    go_wp2
    go_ret
    exact ⟨rfl, rfl⟩
  · have HR2 : Hid (p.data.toList.isPrefixOf s.data.toList = false) := by show _ = _; rw [← HR.out]; simp [h]
    rw [HR2.out]
    clear HR HR2
    go_enter Try.func16, Try.ntmps16
    go_wp2
    go_ret
    exact ⟨rfl, rfl⟩

set_option maxHeartbeats 400000 in
/-- hasAt: does Q stand in src at i? -/
theorem hasAt_any (src Q : ByteArray) (i : Nat) (hi : i ≤ src.size) (hs : src.size ≤ 1048576) (hq0 : 0 < Q.size) (hq : Q.size ≤ 3) (w : World) :
    Calls Try.prog 14 #[.string src, .int .i64 (i : Int), .string Q] w fun e w' => e = .returned (.bool (Q.data.toList.isPrefixOf (src.data.toList.drop i))) ∧ ∃ n, w' = w.drewN n := by
  by_cases hl : src.size < i + Q.size
  · rw [pre_short hl hq0]
    go_enter Try.func14, Try.ntmps14
    go_wp2
    go_ret
    exact ⟨rfl, 0, rfl⟩
  · generalize hb : Q.data.toList.isPrefixOf (src.data.toList.drop i) = b
    have HB : Hid ((Q.data.toList.drop 0).isPrefixOf (src.data.toList.drop (i + 0)) = b) := hb
    clear hb
    go_enter Try.func14, Try.ntmps14
    go_wp2
    go_loopw [7] (fun x wr => ∃ k n : Nat, x = .int .i64 k ∧ k ≤ Q.size ∧ wr = w.drewN n ∧ Hid ((Q.data.toList.drop k).isPrefixOf (src.data.toList.drop (i + k)) = b)) (fun x _ => Q.size - (intOf x).toNat)
    case atStart => exact ⟨0, 0, rfl, Nat.zero_le _, rfl, HB⟩
    case round =>
      obtain ⟨k, n, rfl, hk, rfl, H⟩ := hrel
      by_cases hlt : k < Q.size
      · have hik : i + k < src.size := by omega
        have hI1 : (0 : Int) ≤ (i : Int) + (k : Int) := by omega
        have hI2 : (i : Int) + (k : Int) < (src.size : Int) := by omega
        have hI3 : ((i : Int) + (k : Int)).toNat = i + k := by omega
        by_cases hc : ((src[i + k].toNat : Int) == (Q[k].toNat : Int)) = true
        · have hne : ((src[i + k].toNat : Int) != (Q[k].toNat : Int)) = false := by rw [bne, hc]; rfl
          go_wp2
          go_quiet (fail)
          go_wp2
          go_roundw
          case rel => exact ⟨k + 1, _, by go_num, by omega, rfl, pre_yes hlt hik H.out (u8_eq _ hc)⟩
          case measure => simp [intOf]; omega
        · have hc' : ((src[i + k].toNat : Int) == (Q[k].toNat : Int)) = false := by simpa using hc
          have hne : ((src[i + k].toNat : Int) != (Q[k].toNat : Int)) = true := by rw [bne, hc']; rfl
          have e := pre_no hlt hik H.out (u8_ne _ hc')
          subst e
          clear HB H
          go_wp2
          go_quiet (fail)
          go_wp2
          go_ret
          exact ⟨rfl, _, World.drewN_drewN _ _ _⟩
      · obtain rfl : k = Q.size := by omega
        have e := pre_end H.out
        subst e
        clear HB H
        go_wp2
        go_ret
        exact ⟨rfl, _, rfl⟩
end Go.Proofs.Qxb6001539a
