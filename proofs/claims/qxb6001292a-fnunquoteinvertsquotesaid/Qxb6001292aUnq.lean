import Derived.Test.Qxb6001292aLeaf
namespace Go.Proofs.Qxb6001292a
open Go.RowKit
set_option linter.unusedVariables false

theorem u8_no {c d : UInt8} (h : c ≠ d) : ((c.toNat : Int) == (d.toNat : Int)) = false := by
  rw [beq_eq_false_iff_ne]; intro e
  exact h (UInt8.toNat_inj.1 (by omega))
theorem u8_is {c d : UInt8} (h : c = d) : ((c.toNat : Int) == (d.toNat : Int)) = true := by
  rw [h]; simp

theorem ret3 {A : ByteArray} {n m : Int} (h : n = m) : Ending.returned (.tuple #[.string A, .int .i64 n, .bool true]) = .returned (.tuple #[.string A, .int .i64 m, .bool true]) := by rw [h]
theorem slice_ne (a : Addr) (n c : Nat) : Value.slice (some a) n c ≠ .slice none 0 0 := by simp

theorem urel_start {q : UInt8} {s : ByteArray} {v rest : List UInt8} (hs : s.data.toList = quo q v ++ rest) : URel q s v rest 1 1 [] := by
  have hl : s.size = (qb q v).length + 1 + 1 + rest.length := by
    rw [size_of hs, quo]; simp; omega
  refine ⟨⟨by omega, by omega, by omega⟩, ⟨v, by simp, ?_⟩, by simp⟩
  rw [hs, quo]
  simp
theorem start_q {q : UInt8} {s : ByteArray} {v rest : List UInt8} (hs : s.data.toList = quo q v ++ rest) (h : 0 < s.size) : s[0] = q := by
  have hd := drop_at s 0 h
  rw [List.drop_zero, hs, quo] at hd
  simp only [List.cons_append] at hd
  injection hd with e1 e2
  exact e1.symm
theorem close_len {q : UInt8} {s : ByteArray} {v rest : List UInt8} {i : Nat} (hs : s.data.toList = quo q v ++ rest) (hi : i < s.size) (hr : s.data.toList.drop (i + 1) = rest) : i + 1 = (quo q v).length := by
  have h1 := congrArg List.length hs
  have h2 := congrArg List.length hr
  simp only [List.length_append, List.length_drop] at h1 h2
  have h3 : s.data.toList.length = s.size := by simp
  omega

set_option maxHeartbeats 1000000 in
theorem unq_any (s esc : ByteArray) (q : UInt8) (v rest : List UInt8) (hs : s.data.toList = quo q v ++ rest) (hq : q ≠ 92) (he1 : hasB esc.data.toList q = true) (he2 : hasB esc.data.toList 92 = true) (hsz : s.size ≤ 200000) (w : World) :
    Calls Try.prog 28 #[.string s, .string esc] w fun e w' => ∃ A : ByteArray, e = .returned (.tuple #[.string A, .int .i64 ((quo q v).length : Int), .bool true]) ∧ A.data.toList = v ∧ Below w.heap.size w w' := by
  have U0 := urel_start hs
  have hpos : 0 < s.size := by have := U0.le; omega
  have hs0 : s[0].toNat = q.toNat := by rw [start_q hs hpos]
  have HS : Hid (s.data.toList = quo q v ++ rest) := hs
  have HE : Hid (hasB esc.data.toList q = true ∧ hasB esc.data.toList 92 = true) := ⟨he1, he2⟩
  have HQ : Hid (q ≠ 92) := hq
  clear hs he1 he2 hq
  go_enter Try.func28, Try.ntmps28
  go_wp2
  clear hs0
  go_loopw [8, 9, 10] (fun e st i wr => ∃ (I S : Nat) (E : List UInt8), i = .int .i64 I ∧ st = .int .i64 S ∧ Below w.heap.size w wr ∧ wr.ownsRow w.heap.size 5 1 e E.length (cellsOf E) ∧ (e = .slice none 0 0 → S = 1) ∧ URel q s v rest I S E) (fun _ _ i _ => s.size - (intOf i).toNat)
  case atStart => exact ⟨1, 1, [], rfl, rfl, Below.refl _ _, World.ownsRow_nil _ _ _ _, fun _ => rfl, U0⟩
  case round =>
    clear U0
    obtain ⟨I, S, E, rfl, rfl, hb, hown, hnil, H⟩ := hrel
    obtain ⟨hS1, hSI, hlt⟩ := H.le
    have hEl := H.len
    have hbs := hb.size
    rcases urel_ways H hlt with ⟨hc, hv, hr⟩ | ⟨hc, hj, hc2, H2⟩ | ⟨hc, hc2, H2⟩
    · have hlen := close_len HS.out hlt hr
      have hcb := u8_is hc
      have HL : Hid ((((quo q v).length : Nat) : Int) = (I : Int) + 1) := by show _ = _; omega
      have HV : Hid (E ++ (s.data.toList.drop S).take (I - S) = v) := hv
      clear hlen hc hv hr H
      have hxs : (s.extract S I).size ≤ 1000000 := by simp only [ByteArray.size_extract]; omega
      rcases hown.2 with ⟨hnv, hn0⟩ | ⟨g, cap, cur, hgv, hgrest⟩
      · obtain rfl := hnil hnv
        obtain rfl : E = [] := List.eq_nil_of_length_eq_zero hn0
        subst hnv
        have heq : (binOp .eql 34 (.slice none 0 0) (.slice none 0 0)).run Try.prog wr = .ok (.bool true) wr := Lib.run_eql_slice_nil wr 34 5 none 0 0 0 0 Try.underlying34
        have HA : Hid ((s.extract 1 I).data.toList = v) := by show _ = _; rw [Lib.extract_data, ← HV.out]; rfl
        clear hnil hn0 HV
        go_wp2
        go_ret3
        exact ⟨s.extract 1 I, ret3 HL.out.symm, HA.out, hb⟩
      · clear hgrest hnil
        subst hgv
        have heq : (binOp .eql 34 (.slice (some ⟨g, 0, none⟩) E.length cap) (.slice none 0 0)).run Try.prog wr = .ok (.bool false) wr := Lib.run_eql_slice_nil wr 34 5 (some ⟨g, 0, none⟩) E.length cap 0 0 Try.underlying34
        go_wp2_with (at_builtin; refine wp_appS _ rfl (.tmp 32) (.tmp 36) rfl w.heap.size (.slice (some ⟨g, 0, none⟩) E.length cap) E rfl hown (s.extract S I) rfl (by omega) hxs hbs ?_; intro v2 w2 hown2 hb2 hne2; have hcv := own_conv hown2 (hne2 (slice_ne _ _ _)); rw [Lib.extract_data] at hcv)
        have hbw2 := hb.trans hb2
        go_ret3
        exact ⟨⟨(E ++ (s.data.toList.drop S).take (I - S)).toArray⟩, ret3 HL.out.symm, HV.out, hbw2⟩
    · have hxs : (s.extract S I).size ≤ 1000000 := by simp only [ByteArray.size_extract]; omega
      have hcb : ((s[I].toNat : Int) == (q.toNat : Int)) = false := u8_no (by rw [hc]; exact fun e => HQ.out e.symm)
      have hcb2 : ((s[I].toNat : Int) == 92) = true := u8_is hc
      have hix : 0 ≤ Lib.indexByte esc.data.toList s[I + 1] := by
        rcases hc2 with e | e
        · rw [e]; exact hasB_index _ _ HE.out.1
        · rw [e]; exact hasB_index _ _ HE.out.2
      have hbk := byte_back s[I + 1]
      have HR : Hid (URel q s v rest (I + 2) (I + 2) (E ++ (s.extract S I).data.toList ++ [s[I + 1]])) := by show URel _ _ _ _ _ _ _; rw [Lib.extract_data]; exact H2
      clear hc hc2 H H2 hnil
      go_wp2_with fail
      refine (indexByte_any esc _ _).mono ?_
      rintro e w1 ⟨rfl, rfl⟩
      rw [hbk]
      clear hbk
      generalize Lib.indexByte esc.data.toList s[I + 1] = ix at *
      go_wp2_with (first
        | (at_builtin; refine wp_appS _ rfl (.tmp 62) (.tmp 66) rfl w.heap.size u8 E rfl hown (s.extract S I) rfl (by omega) hxs hbs ?_; intro v2 w2 hown2 hb2 hne2; have hs2 := hb2.size)
        | (at_builtin; refine wp_app1 _ rfl (.tmp 68) (.tmp 73) rfl w.heap.size v2 (E ++ (s.extract S I).data.toList) rfl (hown2.alloc _) w2.heap.size s[I + 1] rfl (by simp) (by simp; omega) (by simp; omega) ?_; intro v3 w3 hown3 hb3 hne3))
      have hbw2 := hb.trans hb2
      have hbw3 := (hbw2.alloc (by omega) _).trans hb3
      go_roundw
      case rel => exact ⟨I + 2, I + 2, _, by go_num, by go_num, hbw3, hown3, fun h => absurd h hne3, HR.out⟩
      case measure => simp [intOf]; omega
    · have hcb := u8_no hc
      have hcb2 : ((s[I].toNat : Int) == 92) = false := u8_no hc2
      clear hc hc2 H
      go_wp2
      go_roundw
      case rel => exact ⟨I + 1, S, E, by go_num, rfl, hb, hown, hnil, H2⟩
      case measure => simp [intOf]; omega

set_option maxHeartbeats 1000000 in
theorem zzunq_any (s esc : ByteArray) (q : UInt8) (v rest : List UInt8) (hs : s.data.toList = quo q v ++ rest) (hq : q ≠ 92) (he1 : hasB esc.data.toList q = true) (he2 : hasB esc.data.toList 92 = true) (hsz : s.size ≤ 200000) (w : World) :
    Calls Try.prog 16 #[.string s, .string esc] w fun e w' => ∃ A : ByteArray, e = .returned (.tuple #[.string A, .int .i64 ((quo q v).length : Int), .bool true]) ∧ A.data.toList = v ∧ Below w.heap.size w w' := by
  have H := fun w => unq_any s esc q v rest hs hq he1 he2 hsz w
  have HH : Hid (∀ w, Calls Try.prog 28 #[.string s, .string esc] w fun e w' => ∃ A : ByteArray, e = .returned (.tuple #[.string A, .int .i64 ((quo q v).length : Int), .bool true]) ∧ A.data.toList = v ∧ Below w.heap.size w w') := H
  clear H hs hq he1 he2
  go_enter Try.func16, Try.ntmps16
  go_wp2_with fail
  refine (HH.out w).mono ?_
  rintro e w1 ⟨A, rfl, hA, hb⟩
  have HA : Hid (A.data.toList = v) := hA
  clear HH hA
  go_wp2
  go_ret3
  exact ⟨A, rfl, HA.out, hb⟩

set_option maxHeartbeats 1000000 in
theorem law_main (v esc rest : ByteArray) (q : UInt8) (h0 : v.size ≤ 65536) (h1 : esc.size ≤ 65536) (h2 : rest.size ≤ 65536) (hq : q ≠ 92) (he1 : hasB esc.data.toList q = true) (he2 : hasB esc.data.toList 92 = true) (w : World) :
    Calls Try.prog 5 #[.string v, .int .u8 (q.toNat : Int), .string esc, .string rest] w fun e w' => e = .returned (.bool true) ∧ Below w.heap.size w w' := by
  have hqb : ((q.toNat : Int) == 92) = false := u8_no hq
  have HE1 : Hid (hasB esc.data.toList q = true) := he1
  have HE2 : Hid (hasB esc.data.toList 92 = true) := he2
  have HQ : Hid (q ≠ 92) := hq
  clear he1 he2 hq
  go_enter Try.func5, Try.ntmps5
  go_wp2_with (go_at_call 13; go_in)
  refine (has_any esc q (by omega) _).mono ?_
  rintro e w1 ⟨rfl, rfl⟩
  rw [HE1.out]
  go_wp2_with fail
  refine (has_any esc 92 (by omega) _).mono ?_
  rintro e w1 ⟨rfl, rfl⟩
  rw [HE2.out]
  go_wp2_with fail
  refine (quote_any v q h0 _).mono ?_
  rintro e w2 ⟨A, rfl, hA, hb2⟩
  have hAs := size_of hA
  have hql := quo_len q v.data.toList
  have hvl : v.data.toList.length = v.size := by simp
  have hA2 : A.size ≤ 131074 := by omega
  have hcat : (A ++ rest).data.toList = quo q v.data.toList ++ rest.data.toList := by rw [ByteArray.data_append, Array.toList_append, hA]
  have hsz : (A ++ rest).size ≤ 200000 := by simp only [ByteArray.size_append]; omega
  have H := fun W => zzunq_any (A ++ rest) esc q v.data.toList rest.data.toList hcat HQ.out HE1.out HE2.out hsz W
  rw [← hAs] at H
  have HH : Hid (∀ W, Calls Try.prog 16 #[.string (A ++ rest), .string esc] W fun e w' => ∃ B : ByteArray, e = .returned (.tuple #[.string B, .int .i64 (A.size : Int), .bool true]) ∧ B.data.toList = v.data.toList ∧ Below W.heap.size W w') := H
  clear H hsz hcat hvl hql hAs hA HE1 HE2 HQ
  go_wp2_with fail
  refine (HH.out _).mono ?_
  rintro e w3 ⟨B, rfl, hB, hb3⟩
  obtain rfl := data_ext hB
  have hb3' := hb2.trans (hb3.mono hb2.size)
  clear HH hB hb3 hb2
  go_wp2
  go_ret
  exact ⟨rfl, hb3'⟩
end Go.Proofs.Qxb6001292a
