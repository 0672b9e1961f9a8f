import Derived.Test.Qxb6001185aRound
namespace Go.Proofs.Qxb6001185a
open Go.RowKit
set_option linter.unusedVariables false

theorem line_data2 {name D X : ByteArray} {d x : List UInt8} (hD : D.data.toList = d) (hX : X.data.toList = x) :
    (name ++ (⟨#[32]⟩ : ByteArray) ++ D ++ (⟨#[32]⟩ : ByteArray) ++ X).data.toList = name.data.toList ++ 32 :: (d ++ 32 :: x) := by
  simp only [bcat, hD, hX, List.append_assoc, List.cons_append, List.nil_append]
theorem line_size2 {name D X : ByteArray} : (name ++ (⟨#[32]⟩ : ByteArray) ++ D ++ (⟨#[32]⟩ : ByteArray) ++ X).size = name.size + 1 + D.size + 1 + X.size := by
  simp only [ByteArray.size_append]; rfl

set_option maxHeartbeats 1000000 in
theorem case_main (a0 : ByteArray) (n v : Nat) (h0 : a0.size ≤ 65536) (hn : n ≤ 999999999) (hv : v < 4294967296) (hname : nameB a0.data.toList = true) (w : World) :
    Calls Try.prog 4 #[.string a0, .int .i64 (n : Int), .int .u32 (v : Int)] w fun e w' => e = .returned (.bool true) ∧ Below w.heap.size w w' := by
  have HN : Hid (nameB a0.data.toList = true) := hname
  clear hname
  go_enter Try.func4, Try.ntmps4
  go_wp2_with (go_at_call 14; go_in)
  refine (zzname_any a0 (by omega) _).mono ?_
  rintro e w1 ⟨rfl, hb1⟩
  rw [HN.out]
  go_wp2_with fail
  refine (dec_any n hn _).mono ?_
  rintro e w2 ⟨D, rfl, hD, hb2⟩
  have hb2' := hb1.trans (hb2.mono hb1.size)
  have hDs := size_of hD
  have hDl := decL_len n
  have hD9 : D.size ≤ 9 := by omega
  have HD : Hid (D.data.toList = decL n) := hD
  clear hD hDs hDl hb2 hb1
  go_wp2_with fail
  refine (hex_any v hv true _).mono ?_
  rintro e w4 ⟨X, rfl, hX, hb4⟩
  have hb4' := hb2'.trans (hb4.mono hb2'.size)
  have hXs := size_of hX
  rw [hxa_len, List.length_nil] at hXs
  have hline := line_data2 (name := a0) HD.out hX
  have hls : (a0 ++ (⟨#[32]⟩ : ByteArray) ++ D ++ (⟨#[32]⟩ : ByteArray) ++ X).size ≤ 1048576 := by rw [line_size2]; omega
  have hX8 : X.size ≤ 8 := by omega
  have hlen := decL_len n
  cases hl : hasL 8 v with
  | true =>
    have hent := fun W => zzentry_any _ a0 _ _ none hline HN.out (decL_dig n) hlen.1 hlen.2 (by rw [hxa_len]; rfl) (hex_bad v hl) hls W
    simp only [resT] at hent
    have HE : Hid (∀ W, Calls Try.prog 13 #[.string (a0 ++ (⟨#[32]⟩ : ByteArray) ++ D ++ (⟨#[32]⟩ : ByteArray) ++ X)] W fun e w' => e = .returned (.tuple #[.string ⟨#[]⟩, .int .i64 0, .int .u32 0, .bool false]) ∧ Below W.heap.size W w') := hent
    have HLL : Hid (hasL 8 v = true) := hl
    clear hent hline hls hXs hX HD HN hb4 hb2' hlen hl
    go_wp2_with fail
    refine (HE.out _).mono ?_
    rintro e w5 ⟨rfl, hb5⟩
    have hb5' := hb4'.trans (hb5.mono hb4'.size)
    clear HE hb5 hb4'
    go_wp2_with fail
    refine (letter_any v hv _).mono ?_
    rintro e w6 ⟨rfl, rfl⟩
    rw [HLL.out]
    go_wp2
    go_ret
    exact ⟨rfl, hb5'⟩
  | false =>
    have hent := fun W => zzentry_any _ a0 _ _ (some v) hline HN.out (decL_dig n) hlen.1 hlen.2 (by rw [hxa_len]; rfl) (by rw [hxa_same 8 v [] hl]; exact hex_read v hv) hls W
    rw [decL_read n hn] at hent
    simp only [resT] at hent
    have HE : Hid (∀ W, Calls Try.prog 13 #[.string (a0 ++ (⟨#[32]⟩ : ByteArray) ++ D ++ (⟨#[32]⟩ : ByteArray) ++ X)] W fun e w' => e = .returned (.tuple #[.string a0, .int .i64 (n : Int), .int .u32 (v : Int), .bool true]) ∧ Below W.heap.size W w') := hent
    have HLL : Hid (hasL 8 v = false) := hl
    clear hent hline hls hXs hX HD HN hb4 hb2' hlen hl
    go_wp2_with fail
    refine (HE.out _).mono ?_
    rintro e w5 ⟨rfl, hb5⟩
    have hb5' := hb4'.trans (hb5.mono hb4'.size)
    clear HE hb5 hb4'
    go_wp2_with fail
    refine (letter_any v hv _).mono ?_
    rintro e w6 ⟨rfl, rfl⟩
    rw [HLL.out]
    go_wp2
    go_ret
    exact ⟨rfl, hb5'⟩
end Go.Proofs.Qxb6001185a
