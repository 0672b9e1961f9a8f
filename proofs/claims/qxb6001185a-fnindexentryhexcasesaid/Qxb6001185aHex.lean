import Derived.Test.Qxb6001185aDec
namespace Go.Proofs.Qxb6001185a
open Go.RowKit
set_option linter.unusedVariables false

theorem arr_new8 (w : World) (t : TypeId) : Arr w.heap.size 8 (w.alloc (.cells #[.int .u8 0, .int .u8 0, .int .u8 0, .int .u8 0, .int .u8 0, .int .u8 0, .int .u8 0, .int .u8 0] t)) := by
  constructor
  · intro j hj
    match j, hj with
    | 0, _ | 1, _ | 2, _ | 3, _ | 4, _ | 5, _ | 6, _ | 7, _ => exact ⟨0, by simp⟩
    | k + 8, h => exact absurd h (by omega)
  · intro j hj
    simp
theorem hex_d (u : Nat) (h : u % 16 < 10) (up : Bool) : (48 : Int) + (u : Int) % 16 = ((hc up (u % 16)).toNat : Int) := by
  cases up
  · rw [hc_low _ (by omega), if_pos h]; omega
  · rw [hc_up _ (by omega), if_pos h]; omega
theorem hex_u (u : Nat) (h : ¬ u % 16 < 10) : (65 : Int) + (u : Int) % 16 - 10 = ((hc true (u % 16)).toNat : Int) := by
  rw [hc_up _ (by omega), if_neg h]; omega
theorem hex_l (u : Nat) (h : ¬ u % 16 < 10) : (97 : Int) + (u : Int) % 16 - 10 = ((hc false (u % 16)).toNat : Int) := by
  rw [hc_low _ (by omega), if_neg h]; omega

/-- What a round of hex8 hands on. -/
def HRel (v : Nat) (up : Bool) (b f u : Nat) (acc : List UInt8) (wr : World) : Prop :=
  acc.length = 8 - f ∧ hxa up f u acc = hxa up 8 v [] ∧ Arr b 8 wr ∧ Lies b f acc wr
theorem hrel_step {v : Nat} {up : Bool} {b g u : Nat} {acc : List UInt8} {wr : World} (hg : g + 1 ≤ 8) (h : HRel v up b (g + 1) u acc wr) :
    HRel v up b g (u / 16) (hc up (u % 16) :: acc) (wr.setCell ⟨b, g, none⟩ (.int .u8 ((hc up (u % 16)).toNat : Int))) := by
  obtain ⟨h1, h2, h3, h4⟩ := h
  exact ⟨by simp only [List.length_cons]; omega, h2, arr_set h3 (by omega) _, lies_set h3 h4 (by omega) _⟩

set_option maxHeartbeats 1000000 in
theorem hex_any (v : Nat) (h0 : v < 4294967296) (up : Bool) (w : World) :
    Calls Try.prog 12 #[.int .u32 (v : Int), .bool up] w fun e w' => ∃ A : ByteArray, e = .returned (.string A) ∧ A.data.toList = hxa up 8 v [] ∧ Below w.heap.size w w' := by
  go_enter Try.func12, Try.ntmps12
  go_wp2
  go_loopw [0, 6] (fun x i wr => ∃ (u f : Nat) (acc : List UInt8), x = .int .u32 (u : Int) ∧ i = .int .i64 ((f : Int) - 1) ∧ u < 4294967296 ∧ f ≤ 8 ∧ Below w.heap.size w wr ∧ HRel v up w.heap.size f u acc wr) (fun _ i _ => (intOf i + 1).toNat)
  case atStart => exact ⟨v, 8, [], rfl, rfl, h0, by omega, (Below.refl _ _).alloc (Nat.le_refl _) _, rfl, rfl, arr_new8 _ _, lies_nil _ _ _⟩
  case round =>
    obtain ⟨u, f, acc, rfl, rfl, hu, hf, hbel, H⟩ := hrel
    have h15 := and15 u hu
    cases f with
    | zero =>
      have hsl := slice37 w.heap.size wr
      have hcv := lies_conv H.2.2.2 8
      rw [H.1] at hcv
      have HA : Hid (acc = hxa up 8 v []) := H.2.1
      clear H
      go_wp2
      go_ret
      exact ⟨_, rfl, HA.out, hbel⟩
    | succ g =>
      obtain ⟨y, hy⟩ := H.2.2.1.cell g (by omega)
      have hfree := H.2.2.1.free g (by omega)
      have H2 := hrel_step hf H
      clear H
      by_cases hd : u % 16 < 10
      · rw [← hex_d u hd up] at H2
        go_wp2
        go_roundw
        case rel => exact ⟨u / 16, g, _, by go_num, by go_num, by omega, by omega, hbel.setCell (Nat.le_refl _) _, H2⟩
        case measure => simp [intOf]
      · cases up
        · rw [← hex_l u hd] at H2
          go_wp2
          go_roundw
          case rel => exact ⟨u / 16, g, _, by go_num, by go_num, by omega, by omega, hbel.setCell (Nat.le_refl _) _, H2⟩
          case measure => simp [intOf]
        · rw [← hex_u u hd] at H2
          go_wp2
          go_roundw
          case rel => exact ⟨u / 16, g, _, by go_num, by go_num, by omega, by omega, hbel.setCell (Nat.le_refl _) _, H2⟩
          case measure => simp [intOf]
end Go.Proofs.Qxb6001185a
