import Derived.Test.Qxb6001185aArr
namespace Go.Proofs.Qxb6001185a
open Go.RowKit
set_option linter.unusedVariables false

theorem arr_new20 (w : World) (t : TypeId) : Arr w.heap.size 20 (w.alloc (.cells #[.int .u8 0, .int .u8 0, .int .u8 0, .int .u8 0, .int .u8 0, .int .u8 0, .int .u8 0, .int .u8 0, .int .u8 0, .int .u8 0, .int .u8 0, .int .u8 0, .int .u8 0, .int .u8 0, .int .u8 0, .int .u8 0, .int .u8 0, .int .u8 0, .int .u8 0, .int .u8 0] t)) := by
  constructor
  · intro j hj
    match j, hj with
    | 0, _ | 1, _ | 2, _ | 3, _ | 4, _ | 5, _ | 6, _ | 7, _ | 8, _ | 9, _ | 10, _ | 11, _ | 12, _ | 13, _ | 14, _ | 15, _ | 16, _ | 17, _ | 18, _ | 19, _ => exact ⟨0, by simp⟩
    | k + 20, h => exact absurd h (by omega)
  · intro j hj
    simp
theorem dec_step {g m n : Nat} {acc : List UInt8} (hm : 0 < m) (h : dg (g + 1) m acc = decL n) : dg g (m / 10) (((48 + m % 10 : Nat)).toUInt8 :: acc) = decL n := by
  rw [← h, dg, if_neg (by omega)]
theorem dec_byte (m : Nat) : (48 : Int) + (m : Int) % 10 = ((((48 + m % 10 : Nat)).toUInt8).toNat : Int) := by
  rw [dig_toNat _ (by omega)]; omega
theorem dec_done {f m n : Nat} {acc : List UInt8} (hf : f ≤ 9) (hm : ¬ 0 < m) (hl : acc.length = 9 - f) (h : dg f m acc = decL n) : acc = decL n ∧ f ≤ 8 := by
  obtain rfl : m = 0 := by omega
  rw [dg_zero] at h
  have := decL_len n
  rw [← h] at this
  exact ⟨h, by omega⟩

set_option maxHeartbeats 1000000 in
theorem dec_pos (n : Nat) (h0 : 0 < n) (h9 : n ≤ 999999999) (w : World) :
    Calls Try.prog 9 #[.int .i64 (n : Int)] w fun e w' => ∃ A : ByteArray, e = .returned (.string A) ∧ A.data.toList = decL n ∧ Below w.heap.size w w' := by
  have HD : Hid (decL n = dg 9 n []) := by show decL n = _; unfold decL; rw [if_neg (by omega)]
  go_enter Try.func9, Try.ntmps9
  go_wp2
  go_loopw [0, 4] (fun x i wr => ∃ (m f : Nat) (acc : List UInt8), x = .int .i64 (m : Int) ∧ i = .int .i64 ((11 + f : Nat) : Int) ∧ m ≤ 999999999 ∧ f ≤ 9 ∧ Below w.heap.size w wr ∧ Hid (m < 10 ^ f ∧ acc.length = 9 - f ∧ dg f m acc = decL n ∧ Arr w.heap.size 20 wr ∧ Lies w.heap.size (11 + f) acc wr)) (fun x _ _ => (intOf x).toNat)
  case atStart =>
    exact ⟨n, 9, [], rfl, rfl, h9, by omega, (Below.refl _ _).alloc (Nat.le_refl _) _, by omega, rfl, HD.out.symm, arr_new20 _ _, lies_nil _ _ _⟩
  case round =>
    obtain ⟨m, f, acc, rfl, rfl, hm, hf, hbel, H⟩ := hrel
    by_cases hpos : 0 < m
    · obtain ⟨H1, H2, H3, H4, H5⟩ := H.out
      obtain ⟨g, rfl⟩ : ∃ g, f = g + 1 := ⟨f - 1, by cases f with | zero => have := dec_end H1; omega | succ g => omega⟩
      obtain ⟨y, hy⟩ := H4.cell (11 + g) (by omega)
      have hfree := H4.free (11 + g) (by omega)
      clear H1 H2 H3 H4 H5
      go_wp2
      rw [dec_byte m]
      go_roundw
      case rel =>
        exact ⟨m / 10, g, _, by go_num, by go_num, by omega, by omega, hbel.setCell (Nat.le_refl _) _, dec_lt H.out.1, by have := H.out.2.1; simp only [List.length_cons]; omega, dec_step hpos H.out.2.2.1, arr_set (i := 11 + g) H.out.2.2.2.1 (by omega) _, lies_set (i := 11 + g) H.out.2.2.2.1 H.out.2.2.2.2 (by omega) _⟩
      case measure => simp [intOf]; omega
    · obtain ⟨hd, hf8⟩ := dec_done hf hpos H.out.2.1 H.out.2.2.1
      have hsl := slice35 w.heap.size (11 + f) (11 + (f : Int)) (by omega) (by omega) wr
      have hlen := H.out.2.1
      have hcv := lies_conv H.out.2.2.2.2 (20 - (11 + f))
      rw [hlen, show 9 - f = 20 - (11 + f) from by omega] at hcv
      have HA : Hid (acc = decL n) := hd
      clear hlen hd H HD
      go_wp2
      go_ret
      exact ⟨_, rfl, HA.out, hbel⟩

set_option maxHeartbeats 1000000 in
/-- decimal: the digits of n. -/
theorem dec_any (n : Nat) (h9 : n ≤ 999999999) (w : World) :
    Calls Try.prog 9 #[.int .i64 (n : Int)] w fun e w' => ∃ A : ByteArray, e = .returned (.string A) ∧ A.data.toList = decL n ∧ Below w.heap.size w w' := by
  by_cases h0 : 0 < n
  · exact dec_pos n h0 h9 w
  · obtain rfl : n = 0 := by omega
    go_enter Try.func9, Try.ntmps9
    go_wp2
    go_ret
    exact ⟨_, rfl, rfl, Below.refl _ _⟩
end Go.Proofs.Qxb6001185a
