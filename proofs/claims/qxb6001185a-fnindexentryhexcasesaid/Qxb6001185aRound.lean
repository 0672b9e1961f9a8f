import Derived.Test.Qxb6001185aEntry
import Derived.OpenShut
namespace Go.Proofs.Qxb6001185a
open Go.RowKit
set_option linter.unusedVariables false

theorem bcat (a b : ByteArray) : (a ++ b).data.toList = a.data.toList ++ b.data.toList := by
  rw [ByteArray.data_append, Array.toList_append]

/-- The line, as the law writes it. -/
theorem line_data {name Z D X : ByteArray} {z d x : List UInt8} (hZ : Z.data.toList = z) (hD : D.data.toList = d) (hX : X.data.toList = x) :
    (name ++ (⟨#[32]⟩ : ByteArray) ++ Z ++ D ++ (⟨#[32]⟩ : ByteArray) ++ X).data.toList = name.data.toList ++ 32 :: ((z ++ d) ++ 32 :: x) := by
  simp only [bcat, hZ, hD, hX, List.append_assoc, List.cons_append, List.nil_append]
theorem line_size {name Z D X : ByteArray} : (name ++ (⟨#[32]⟩ : ByteArray) ++ Z ++ D ++ (⟨#[32]⟩ : ByteArray) ++ X).size = name.size + 1 + Z.size + D.size + 1 + X.size := by
  simp only [ByteArray.size_append]; rfl

set_option maxHeartbeats 1000000 in
theorem round_main (a0 : ByteArray) (n v p : Nat) (h0 : a0.size ≤ 65536) (hn : n ≤ 999999999) (hv : v < 4294967296) (hp : p ≤ 9) (hlen : (decL n).length + p ≤ 9) (hname : nameB a0.data.toList = true) (w : World) :
    Calls Try.prog 3 #[.string a0, .int .i64 (n : Int), .int .u32 (v : Int), .int .i64 (p : Int)] w fun e w' => e = .returned (.bool true) ∧ Below w.heap.size w w' := by
  have HN : Hid (nameB a0.data.toList = true) := hname
  clear hname
  go_enter Try.func3, Try.ntmps3
  go_wp2_with (go_at_call 8; go_in)
  refine (dec_any n hn _).mono ?_
  rintro e w1 ⟨D, rfl, hD, hb1⟩
  have hDs := size_of hD
  have hDp : D.size + p ≤ 9 := by omega
  have HD : Hid (D.data.toList = decL n) := hD
  clear hD hDs hlen
  go_wp2_with fail
  refine (zzname_any a0 (by omega) _).mono ?_
  rintro e w2 ⟨rfl, hb2⟩
  rw [HN.out]
  have hb2' := hb1.trans (hb2.mono hb1.size)
  clear hb2 hb1
  go_wp2_with fail
  refine (zeros_any p hp _).mono ?_
  rintro e w3 ⟨Z, rfl, hZ, rfl⟩
  have hZs := size_of hZ
  rw [List.length_replicate] at hZs
  have hZ9 : Z.size ≤ 9 := by omega
  have HZ : Hid (Z.data.toList = List.replicate p 48) := hZ
  clear hZ hZs
  go_wp2_with fail
  refine (hex_any v hv false _).mono ?_
  rintro e w4 ⟨X, rfl, hX, hb4⟩
  have hb4' := hb2'.trans (hb4.mono hb2'.size)
  have hXs := size_of hX
  rw [hxa_len, List.length_nil] at hXs
  have hline := line_data (name := a0) HZ.out HD.out hX
  have hls : (a0 ++ (⟨#[32]⟩ : ByteArray) ++ Z ++ D ++ (⟨#[32]⟩ : ByteArray) ++ X).size ≤ 1048576 := by rw [line_size]; omega
  have hX8 : X.size ≤ 8 := by omega
  have hval : decGo (List.replicate p 48 ++ decL n) 0 = n := by rw [decGo_zeros, decL_read n hn]
  have hdig : ∀ c ∈ List.replicate p 48 ++ decL n, isDig c := by
    intro c hc
    rcases List.mem_append.1 hc with h | h
    · rw [List.eq_of_mem_replicate h]; unfold isDig; decide
    · exact decL_dig n c h
  have hl1 : 1 ≤ (List.replicate p 48 ++ decL n).length := by have := decL_len n; simp; omega
  have hl9 : (List.replicate p 48 ++ decL n).length ≤ 9 := by have := size_of HD.out; simp; omega
  have hent := fun W => zzentry_any _ a0 _ _ (some v) hline HN.out hdig hl1 hl9 (by rw [hxa_len]; rfl) (hex_read v hv) hls W
  rw [hval] at hent
  simp only [resT] at hent
  have HE : Hid (∀ W, Calls Try.prog 13 #[.string (a0 ++ (⟨#[32]⟩ : ByteArray) ++ Z ++ D ++ (⟨#[32]⟩ : ByteArray) ++ X)] W fun e w' => e = .returned (.tuple #[.string a0, .int .i64 (n : Int), .int .u32 (v : Int), .bool true]) ∧ Below W.heap.size W w') := hent
  clear hent hval hdig hl1 hl9 hline hls hXs hX HZ HD HN hb4 hb2'
  go_wp2_with fail
  refine (HE.out _).mono ?_
  rintro e w5 ⟨rfl, hb5⟩
  have hb5' := hb4'.trans (hb5.mono hb4'.size)
  clear HE hb5 hb4'
  go_wp2
  go_ret
  exact ⟨rfl, hb5'⟩
end Go.Proofs.Qxb6001185a
