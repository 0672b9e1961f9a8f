import Derived.Test.Qxb6001185aCut
namespace Go.Proofs.Qxb6001185a
open Go.RowKit
set_option linter.unusedVariables false

theorem and15 (u : Nat) (h : u < 4294967296) : bits BinOp.and IntKind.u32 (u : Int) 15 = (u : Int) % 16 := by
  have := u32_and_nat u 15 h (by decide)
  have e : u &&& 15 = u % 16 := Nat.and_two_pow_sub_one_eq_mod u 4
  rw [e] at this
  rw [show (15 : Int) = ((15 : Nat) : Int) from rfl, this]
  omega

theorem or4 (a d : Nat) (h : a < 268435456) (hd : d < 16) : bits BinOp.or IntKind.u32 ((a : Int) * 16) (d : Int) = ((a * 16 + d : Nat) : Int) := by
  have := u32_or_nat (a * 16) d (by omega) (by omega)
  have e : a * 16 ||| d = a * 16 + d := by
    have := Nat.two_pow_add_eq_or_of_lt (i := 4) (b := d) (by simpa using hd) a
    rw [show (2 : Nat) ^ 4 = 16 from rfl] at this
    rw [Nat.mul_comm a 16, ← this]
  rw [e] at this
  rw [← this]
  congr 1

theorem zeros_step {A : ByteArray} {j : Nat} (h : A.data.toList = List.replicate j 48) : (A ++ (⟨#[48]⟩ : ByteArray)).data.toList = List.replicate (j + 1) 48 := by
  rw [ByteArray.data_append, Array.toList_append, h, List.replicate_succ']
theorem size_of {A : ByteArray} {l : List UInt8} (h : A.data.toList = l) : A.size = l.length := by rw [← h]; simp

set_option maxHeartbeats 400000 in
/-- zeros: k zeros. -/
theorem zeros_any (k : Nat) (hk : k ≤ 9) (w : World) :
    Calls Try.prog 11 #[.int .i64 (k : Int)] w fun e w' => ∃ A : ByteArray, e = .returned (.string A) ∧ A.data.toList = List.replicate k 48 ∧ w' = w := by
  go_enter Try.func11, Try.ntmps11
  go_wp2
  go_loop [3, 4] (fun s i => ∃ (A : ByteArray) (j : Nat), s = .string A ∧ i = .int .i64 j ∧ j ≤ k ∧ A.size ≤ k ∧ Hid (A.data.toList = List.replicate j 48)) (fun _ i => k - (intOf i).toNat)
  case atStart => exact ⟨_, 0, rfl, rfl, Nat.zero_le _, Nat.zero_le _, rfl⟩
  case round =>
    obtain ⟨A, j, rfl, rfl, hj, hz, H⟩ := hrel
    by_cases hlt : j < k
    · go_wp2
      go_round
      case rel => exact ⟨_, j + 1, rfl, by go_num, by omega, by rw [size_of (zeros_step H.out)]; simp; omega, zeros_step H.out⟩
      case measure => simp [intOf]; omega
    · go_wp2
      go_ret
      obtain rfl : j = k := by omega
      exact ⟨_, rfl, H.out, rfl⟩

theorem hasL_yes {j u v : Nat} (hj : j < 8) (H : hasL (8 - j) u = hasL 8 v) (h : 10 ≤ u % 16) : hasL 8 v = true := by
  rw [← H, show 8 - j = (8 - (j + 1)) + 1 from by omega, hasL, if_pos h]
theorem hasL_no {j u v : Nat} (hj : j < 8) (H : hasL (8 - j) u = hasL 8 v) (h : ¬ 10 ≤ u % 16) : hasL (8 - (j + 1)) (u / 16) = hasL 8 v := by
  rw [← H, show 8 - j = (8 - (j + 1)) + 1 from by omega, hasL, if_neg h]

set_option maxHeartbeats 400000 in
theorem letter_any (v : Nat) (hv : v < 4294967296) (w : World) :
    Calls Try.prog 15 #[.int .u32 (v : Int)] w fun e w' => e = .returned (.bool (hasL 8 v)) ∧ w' = w := by
  go_enter Try.func15, Try.ntmps15
  go_wp2
  go_loop [0, 3] (fun x i => ∃ (u j : Nat), x = .int .u32 u ∧ i = .int .i64 j ∧ j ≤ 8 ∧ u < 4294967296 ∧ Hid (hasL (8 - j) u = hasL 8 v)) (fun _ i => 8 - (intOf i).toNat)
  case atStart => exact ⟨v, 0, rfl, rfl, by omega, hv, rfl⟩
  case round =>
    obtain ⟨u, j, rfl, rfl, hj, hu, H⟩ := hrel
    have h15 := and15 u hu
    by_cases hlt : j < 8
    · by_cases h10 : 10 ≤ u % 16
      · go_wp2
        go_ret
        rw [hasL_yes hlt H.out h10]
        exact ⟨rfl, rfl⟩
      · go_wp2
        go_round
        case rel => exact ⟨u / 16, j + 1, by go_num, by go_num, by omega, by omega, hasL_no hlt H.out h10⟩
        case measure => simp [intOf]; omega
    · go_wp2
      go_ret
      obtain rfl : j = 8 := by omega
      rw [← H.out]
      exact ⟨rfl, rfl⟩
end Go.Proofs.Qxb6001185a
