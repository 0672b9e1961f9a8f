import Derived.Test.Qxb6001185aHex
namespace Go.Proofs.Qxb6001185a
open Go.RowKit
set_option linter.unusedVariables false

/-- What indexEntry hands back. -/
def resT (name : ByteArray) (n : Nat) : Option Nat → Value
  | some v => .tuple #[.string name, .int .i64 (n : Int), .int .u32 (v : Int), .bool true]
  | none => .tuple #[.string ⟨#[]⟩, .int .i64 0, .int .u32 0, .bool false]

theorem data_ext {a b : ByteArray} (h : a.data.toList = b.data.toList) : a = b := by
  obtain ⟨⟨x⟩⟩ := a; obtain ⟨⟨y⟩⟩ := b; simp at h; rw [h]

/-- The first k digits of C have been read: they come to a. -/
def DRel (C : ByteArray) (k a : Nat) : Prop := a < 10 ^ k ∧ decGo (C.data.toList.drop k) a = decGo C.data.toList 0
theorem drel_bound {C : ByteArray} {k a : Nat} (h : DRel C k a) (hk : k ≤ 8) : a ≤ 99999999 := by
  have := Nat.pow_le_pow_right (n := 10) (by omega) hk
  have := h.1
  omega
theorem drel_bound9 {C : ByteArray} {k a : Nat} (h : DRel C k a) (hk : k ≤ 9) : a ≤ 999999999 := by
  have := Nat.pow_le_pow_right (n := 10) (by omega) hk
  have := h.1
  omega
theorem drel_step {C : ByteArray} {k a : Nat} (h : DRel C k a) (hk : k < C.size) (hd : isDig C[k]) : DRel C (k + 1) (a * 10 + (C[k].toNat - 48)) := by
  obtain ⟨h1, h2⟩ := h
  unfold isDig at hd
  rw [drop_at C k hk, decGo] at h2
  exact ⟨by rw [Nat.pow_succ]; omega, h2⟩
theorem drel_end {C : ByteArray} {a : Nat} (h : DRel C C.size a) : a = decGo C.data.toList 0 := by
  obtain ⟨h1, h2⟩ := h
  rw [List.drop_eq_nil_of_le (by simp)] at h2
  exact h2
/-- The first k hex digits of D have been read: they come to a. -/
def XRel (D : ByteArray) (R : Option Nat) (k a : Nat) : Prop := a < 16 ^ k ∧ hexGo (D.data.toList.drop k) a = R
theorem xrel_bound {D : ByteArray} {R : Option Nat} {k a : Nat} (h : XRel D R k a) (hk : k ≤ 7) : a < 268435456 := by
  have := Nat.pow_le_pow_right (n := 16) (by omega) hk
  have := h.1
  omega
theorem xrel_bound8 {D : ByteArray} {R : Option Nat} {k a : Nat} (h : XRel D R k a) (hk : k ≤ 8) : a < 4294967296 := by
  have := Nat.pow_le_pow_right (n := 16) (by omega) hk
  have := h.1
  omega
theorem xrel_dig {D : ByteArray} {R : Option Nat} {k a : Nat} (h : XRel D R k a) (hk : k < D.size) (h1 : 48 ≤ D[k].toNat) (h2 : D[k].toNat ≤ 57) : XRel D R (k + 1) (a * 16 + (D[k].toNat - 48)) := by
  obtain ⟨g1, g2⟩ := h
  rw [drop_at D k hk, hexGo, hv, if_pos ⟨h1, h2⟩] at g2
  exact ⟨by rw [Nat.pow_succ]; omega, g2⟩
theorem xrel_let {D : ByteArray} {R : Option Nat} {k a : Nat} (h : XRel D R k a) (hk : k < D.size) (h1 : 97 ≤ D[k].toNat) (h2 : D[k].toNat ≤ 102) : XRel D R (k + 1) (a * 16 + (D[k].toNat - 87)) := by
  obtain ⟨g1, g2⟩ := h
  rw [drop_at D k hk, hexGo, hv, if_neg (by omega), if_pos ⟨h1, h2⟩] at g2
  exact ⟨by rw [Nat.pow_succ]; omega, g2⟩
theorem xrel_bad {D : ByteArray} {R : Option Nat} {k a : Nat} (h : XRel D R k a) (hk : k < D.size) (h1 : ¬ (48 ≤ D[k].toNat ∧ D[k].toNat ≤ 57)) (h2 : ¬ (97 ≤ D[k].toNat ∧ D[k].toNat ≤ 102)) : R = none := by
  obtain ⟨g1, g2⟩ := h
  rw [drop_at D k hk, hexGo, hv, if_neg h1, if_neg h2] at g2
  exact g2.symm
theorem xrel_end {D : ByteArray} {R : Option Nat} {a : Nat} (h : XRel D R D.size a) : R = some a := by
  obtain ⟨g1, g2⟩ := h
  rw [List.drop_eq_nil_of_le (by simp)] at g2
  exact g2.symm

set_option maxHeartbeats 1000000 in
theorem entry_any (line name : ByteArray) (ds hx : List UInt8) (R : Option Nat) (hline : line.data.toList = name.data.toList ++ 32 :: (ds ++ 32 :: hx)) (hn : nameB name.data.toList = true)
    (hd : ∀ c ∈ ds, isDig c) (hd1 : 1 ≤ ds.length) (hd9 : ds.length ≤ 9) (hx8 : hx.length = 8) (hR : hexGo hx 0 = R) (hsz : line.size ≤ 1048576) (w : World) :
    Calls Try.prog 23 #[.string line] w fun e w' => e = .returned (resT name (decGo ds 0) R) ∧ Below w.heap.size w w' := by
  have hlen : line.size = name.size + (ds.length + (hx.length + 1) + 1) := by
    have := congrArg List.length hline
    simpa using this
  have hspace : (32 : UInt8) ∉ ds := fun hm => by have := hd 32 hm; unfold isDig at this; revert this; decide
  have HL : Hid (line.data.toList = name.data.toList ++ 32 :: (ds ++ 32 :: hx)) := hline
  have HN : Hid (nameB name.data.toList = true) := hn
  have HX : Hid (hx.length = 8) := hx8
  have HR : Hid (hexGo hx 0 = R) := hR
  have HD : Hid (∀ c ∈ ds, isDig c) := hd
  have hnsz : name.size ≤ 1048576 := by omega
  clear hline hn hx8 hR hd hlen
  go_enter Try.func23, Try.ntmps23
  go_wp2_with fail
  refine (cut_at line _ _ HL.out (name_space _ HN.out) hsz w).mono ?_
  rintro e w1 ⟨A, B, rfl, hA, hB, n1, rfl⟩
  obtain rfl := data_ext hA
  have HB : Hid (B.data.toList = ds ++ 32 :: hx) := hB
  have hBs : B.size ≤ 1048576 := by rw [size_of hB]; have := HX.out; simp; omega
  clear hA hB
  go_wp2_with fail
  refine (cut_at B _ _ HB.out hspace hBs _).mono ?_
  rintro e w1 ⟨C, D, rfl, hC, hD, n2, rfl⟩
  have HC : Hid (C.data.toList = ds) := hC
  have HDD : Hid (D.data.toList = hx) := hD
  have hCs := size_of hC
  have hDs := size_of hD
  rw [HX.out] at hDs
  clear hC hD
  have hC1 : 1 ≤ C.size := by omega
  have hC9 : C.size ≤ 9 := by omega
  have hD8 : D.size ≤ 8 := by omega
  have hD8' : 8 ≤ D.size := by omega
  have bC0 : ((C.size : Int) == 0) = false := by rw [beq_eq_false_iff_ne]; omega
  have bC9 : decide ((9 : Int) < (C.size : Int)) = false := by simp; omega
  have bD8 : ((D.size : Int) != 8) = false := by simp; omega
  clear hCs hDs
  go_wp2_with fail
  refine (name_any A hnsz _).mono ?_
  rintro e w3 ⟨rfl, hb3⟩
  rw [HN.out]
  have hb3' : Below w.heap.size w w3 := (below_drewN (Below.refl _ _) _).trans hb3
  clear hb3
  obtain ⟨cap4, w4, hrun4, hb4, hcell4⟩ := bytes_conv w3 C
  have hb4' : Below w.heap.size w w4 := hb3'.trans (hb4.mono hb3'.size)
  have HC4 : Hid (∀ (k : Nat) (h : k < C.size), w4.cell? ⟨w3.heap.size, k, none⟩ = some (.int .u8 (C[k].toNat : Int))) := hcell4
  clear hcell4 hb4
  obtain ⟨cap5, w5, hrun5, hb5, hcell5⟩ := bytes_conv w4 D
  have hb5' : Below w.heap.size w w5 := hb4'.trans (hb5.mono hb4'.size)
  have HC5 : Hid (∀ (k : Nat) (h : k < D.size), w5.cell? ⟨w4.heap.size, k, none⟩ = some (.int .u8 (D[k].toNat : Int))) := hcell5
  clear hcell5 hb5 hb4' hb3'
  have HD' : Hid (∀ (k : Nat) (h : k < C.size), isDig C[k]) := fun k h => HD.out _ (by rw [← HC.out]; exact List.getElem_mem (l := C.data.toList) (n := k) (by simpa using h))
  have HR' : Hid (XRel D R 0 0) := ⟨by simp, by rw [List.drop_zero, HDD.out]; exact HR.out⟩
  have HV : Hid (decGo ds 0 = decGo C.data.toList 0) := by show decGo ds 0 = _; rw [HC.out]
  clear HL HX HR HD HB HC HDD hspace hd1 hd9
  go_wp2_with fail
  go_loop [2, 3, 4, 5, 57] (fun v2 v3 v4 v5 i => ∃ k a : Nat, v2 = .string A ∧ v3 = .int .i64 a ∧ v4 = .int .u32 0 ∧ v5 = .bool false ∧ i = .int .i64 k ∧ k ≤ C.size ∧ DRel C k a) (fun _ _ _ _ i => C.size - (intOf i).toNat)
  case atStart => exact ⟨0, 0, rfl, rfl, rfl, rfl, rfl, Nat.zero_le _, by simp, rfl⟩
  case round =>
    obtain ⟨k, a, rfl, rfl, rfl, rfl, rfl, hk, H⟩ := hrel
    by_cases hlt : k < C.size
    · have hcell := HC4.out k hlt
      have hdig := HD'.out k hlt
      have ha := drel_bound H (by omega)
      have H2 := drel_step H hlt hdig
      unfold isDig at hdig
      clear H HC4 HC5 HD' HR' hrun4 hrun5
      generalize C[k].toNat = c at *
      go_wp2
      go_round
      case rel => exact ⟨k + 1, a * 10 + (c - 48), rfl, by go_num, rfl, rfl, by go_num, by omega, H2⟩
      case measure => simp [intOf]; omega
    · obtain rfl : k = C.size := by omega
      have ha := drel_bound9 H hC9
      have hV := drel_end H
      have HW : Hid (decGo ds 0 = a) := HV.out.trans hV.symm
      clear H hV HC4 HD' hrun4 HV
      go_wp2_with fail
      clear hrun5
      go_loop [2, 3, 4, 5, 77] (fun v2 v3 v4 v5 i => ∃ k s : Nat, v2 = .string A ∧ v3 = .int .i64 a ∧ v4 = .int .u32 s ∧ v5 = .bool false ∧ i = .int .i64 k ∧ k ≤ D.size ∧ XRel D R k s) (fun _ _ _ _ i => D.size - (intOf i).toNat)
      case atStart => exact ⟨0, 0, rfl, rfl, rfl, rfl, rfl, Nat.zero_le _, HR'⟩
      case round =>
        obtain ⟨k, s, rfl, rfl, rfl, rfl, rfl, hkd, H⟩ := hrel
        by_cases hlt2 : k < D.size
        · have hcell := HC5.out k hlt2
          have hs := xrel_bound H (by omega)
          by_cases hg : 48 ≤ D[k].toNat ∧ D[k].toNat ≤ 57
          · have H2 := xrel_dig H hlt2 hg.1 hg.2
            obtain ⟨hg1, hg2⟩ := hg
            clear H HC5 HR'
            generalize D[k].toNat = c at *
            have hor := or4 s (c - 48) hs (by omega)
            rw [show ((c - 48 : Nat) : Int) = (c : Int) - 48 from by omega] at hor
            go_wp2
            go_round
            case rel => exact ⟨k + 1, s * 16 + (c - 48), rfl, rfl, by go_num, rfl, by go_num, by omega, H2⟩
            case measure => simp [intOf]; omega
          · by_cases hg' : 97 ≤ D[k].toNat ∧ D[k].toNat ≤ 102
            · have H2 := xrel_let H hlt2 hg'.1 hg'.2
              obtain ⟨hg1, hg2⟩ := hg'
              clear H HC5 HR' hg
              generalize D[k].toNat = c at *
              have hor := or4 s (c - 87) hs (by omega)
              rw [show ((c - 87 : Nat) : Int) = (c : Int) - 97 + 10 from by omega] at hor
              go_wp2
              go_round
              case rel => exact ⟨k + 1, s * 16 + (c - 87), rfl, rfl, by go_num, rfl, by go_num, by omega, H2⟩
              case measure => simp [intOf]; omega
            · have hRn := xrel_bad H hlt2 hg hg'
              have HQ : Hid (resT A (decGo ds 0) R = .tuple #[.string ⟨#[]⟩, .int .i64 0, .int .u32 0, .bool false]) := by
                show resT _ _ _ = _
                rw [hRn]; rfl
              clear H HC5 HR' hRn
              generalize D[k].toNat = c at *
              by_cases q1 : 48 ≤ c
              · have q2 : ¬ c ≤ 57 := fun h => hg ⟨q1, h⟩
                by_cases q3 : 97 ≤ c
                · have q4 : ¬ c ≤ 102 := fun h => hg' ⟨q3, h⟩
                  clear hg hg'
                  go_wp2
                  refine bodyPost_ret (v := .tuple #[.string ⟨#[]⟩, .int .i64 0, .int .u32 0, .bool false]) (by simp [results, Try.results23, go_sem]) rfl ?_
                  exact ⟨by rw [HQ.out], hb5'⟩
                · clear hg hg'
                  go_wp2
                  refine bodyPost_ret (v := .tuple #[.string ⟨#[]⟩, .int .i64 0, .int .u32 0, .bool false]) (by simp [results, Try.results23, go_sem]) rfl ?_
                  exact ⟨by rw [HQ.out], hb5'⟩
              · clear hg hg'
                go_wp2
                refine bodyPost_ret (v := .tuple #[.string ⟨#[]⟩, .int .i64 0, .int .u32 0, .bool false]) (by simp [results, Try.results23, go_sem]) rfl ?_
                exact ⟨by rw [HQ.out], hb5'⟩
        · obtain rfl : k = D.size := by omega
          have hRs := xrel_end H
          have HQ : Hid (resT A (decGo ds 0) R = .tuple #[.string A, .int .i64 (a : Int), .int .u32 (s : Int), .bool true]) := by
            show resT _ _ _ = _
            rw [hRs, HW.out]; rfl
          clear H HC5 HR' hRs
          go_wp2
          refine bodyPost_ret (v := .tuple #[.string A, .int .i64 (a : Int), .int .u32 (s : Int), .bool true]) (by simp [results, Try.results23, go_sem]) rfl ?_
          exact ⟨by rw [HQ.out], hb5'⟩

set_option maxHeartbeats 1000000 in
theorem zzentry_any (line name : ByteArray) (ds hx : List UInt8) (R : Option Nat) (hline : line.data.toList = name.data.toList ++ 32 :: (ds ++ 32 :: hx)) (hn : nameB name.data.toList = true)
    (hd : ∀ c ∈ ds, isDig c) (hd1 : 1 ≤ ds.length) (hd9 : ds.length ≤ 9) (hx8 : hx.length = 8) (hR : hexGo hx 0 = R) (hsz : line.size ≤ 1048576) (w : World) :
    Calls Try.prog 13 #[.string line] w fun e w' => e = .returned (resT name (decGo ds 0) R) ∧ Below w.heap.size w w' := by
  have H := fun w => entry_any line name ds hx R hline hn hd hd1 hd9 hx8 hR hsz w
  have HH : Hid (∀ w, Calls Try.prog 23 #[.string line] w fun e w' => e = .returned (resT name (decGo ds 0) R) ∧ Below w.heap.size w w') := H
  clear H hline hn hd hd1 hd9 hx8 hR
  generalize decGo ds 0 = V at *
  go_enter Try.func13, Try.ntmps13
  go_wp2_with fail
  refine (HH.out w).mono ?_
  rintro e w1 ⟨rfl, hb⟩
  clear HH
  cases R with
  | none =>
    simp only [resT]
    go_wp2
    refine bodyPost_ret (v := .tuple #[.string ⟨#[]⟩, .int .i64 0, .int .u32 0, .bool false]) (by simp [results, Try.results13, go_sem]) rfl ?_
    exact ⟨rfl, hb⟩
  | some v =>
    simp only [resT]
    go_wp2
    refine bodyPost_ret (v := .tuple #[.string name, .int .i64 (V : Int), .int .u32 (v : Int), .bool true]) (by simp [results, Try.results13, go_sem]) rfl ?_
    exact ⟨rfl, hb⟩
end Go.Proofs.Qxb6001185a
