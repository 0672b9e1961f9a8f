import Derived.Test.Qxb6001040aSkip
namespace Go.Proofs.Qxb6001040a
open Go.RowKit
set_option linter.unusedVariables false

set_option maxHeartbeats 1000000 in
theorem zz_any (doc : ByteArray) (p0 l0 : Nat) (hp : p0 ≤ doc.size) (hd : doc.size ≤ 1048576) (hl : l0 ≤ 1073741824) (T1 T2 : Nat) (HT : Left doc T1 T2 p0 l0 false) (w : World) :
    Calls Try.prog 9 #[.string doc, .int .i64 (p0 : Int), .int .i64 (l0 : Int)] w fun e w' =>
      e = .returned (.tuple #[.int .i64 (T1 : Int), .int .i64 (T2 : Int)]) ∧ ∃ n, w' = (w.alloc (.cells #[.string doc, .int .i64 (T1 : Int), .int .i64 (T2 : Int)] 34)).drewN n := by
  have H : Hid (Left doc T1 T2 p0 l0 false) := HT
  clear HT
  go_enter Try.func9, Try.ntmps9
  go_wp2_with fail
  refine (skip_any doc p0 l0 hp hd hl T1 T2 H.out w).mono ?_
  rintro e w' ⟨rfl, n, rfl⟩
  go_wp2
  go_quiet (fail)
  go_wp2
  go_ret2
  refine ⟨rfl, ?_⟩
  simp only [World.drewN_drewN]
  exact ⟨_, rfl⟩

set_option maxHeartbeats 1000000 in
theorem scan_any (doc : ByteArray) (p0 : Nat) (hp : p0 ≤ doc.size) (hd : doc.size ≤ 1048576) (T1 T2 : Nat) (HT : Left doc T1 T2 p0 0 false) (w : World) :
    Calls Try.prog 10 #[.string doc, .int .i64 (p0 : Int)] w fun e w' =>
      e = .returned (.tuple #[.int .i64 (T1 : Int), .int .i64 (T2 : Int)]) ∧ w' = w := by
  go_enter Try.func10, Try.ntmps10
  go_wp2
  go_loop [6, 7, 8] (fun vp vl vb => ∃ (p l : Nat) (b : Bool), vp = .int .i64 p ∧ vl = .int .i64 l ∧ vb = .bool b ∧ p ≤ doc.size ∧ l ≤ p ∧ Left doc T1 T2 p l b) (fun vp _ _ => doc.size - (intOf vp).toNat)
  case atStart => exact ⟨p0, 0, false, rfl, rfl, rfl, hp, by omega, HT⟩
  case round =>
    obtain ⟨p, l, b, rfl, rfl, rfl, hpd, hlp, H⟩ := hrel
    by_cases hlt : p < doc.size
    · cases b
      · by_cases c32 : ((doc[p].toNat : Int) == 32) = true
        · go_wp2
          go_round
          case rel => exact ⟨p + 1, l, false, by go_num, rfl, rfl, by omega, by omega, left_blank hlt H (Or.inl (u8_eq 32 c32))⟩
          case measure => simp [intOf]; omega
        · have c32' : ((doc[p].toNat : Int) == 32) = false := by simpa using c32
          clear c32
          by_cases c9 : ((doc[p].toNat : Int) == 9) = true
          · go_wp2
            go_round
            case rel => exact ⟨p + 1, l, false, by go_num, rfl, rfl, by omega, by omega, left_blank hlt H (Or.inr (Or.inl (u8_eq 9 c9)))⟩
            case measure => simp [intOf]; omega
          · have c9' : ((doc[p].toNat : Int) == 9) = false := by simpa using c9
            clear c9
            by_cases c13 : ((doc[p].toNat : Int) == 13) = true
            · go_wp2
              go_round
              case rel => exact ⟨p + 1, l, false, by go_num, rfl, rfl, by omega, by omega, left_blank hlt H (Or.inr (Or.inr (u8_eq 13 c13)))⟩
              case measure => simp [intOf]; omega
            · have c13' : ((doc[p].toNat : Int) == 13) = false := by simpa using c13
              clear c13
              by_cases c10 : ((doc[p].toNat : Int) == 10) = true
              · go_wp2
                go_round
                case rel => exact ⟨p + 1, l + 1, false, by go_num, by go_num, rfl, by omega, by omega, left_nl hlt H (u8_eq 10 c10)⟩
                case measure => simp [intOf]; omega
              · have c10' : ((doc[p].toNat : Int) == 10) = false := by simpa using c10
                clear c10
                by_cases c35 : ((doc[p].toNat : Int) == 35) = true
                · go_wp2
                  go_round
                  case rel => exact ⟨p + 1, l, true, by go_num, rfl, rfl, by omega, by omega, left_hash hlt H (u8_eq 35 c35)⟩
                  case measure => simp [intOf]; omega
                · have c35' : ((doc[p].toNat : Int) == 35) = false := by simpa using c35
                  clear c35
                  obtain ⟨rfl, rfl⟩ := left_stop hlt H (u8_ne 32 c32') (u8_ne 9 c9') (u8_ne 13 c13') (u8_ne 10 c10') (u8_ne 35 c35')
                  go_wp2
                  go_ret2
                  exact ⟨rfl, rfl⟩
      · by_cases c10 : ((doc[p].toNat : Int) == 10) = true
        · go_wp2
          go_round
          case rel => exact ⟨p + 1, l + 1, false, by go_num, by go_num, rfl, by omega, by omega, left_cnl hlt H (u8_eq 10 c10)⟩
          case measure => simp [intOf]; omega
        · have c10' : ((doc[p].toNat : Int) == 10) = false := by simpa using c10
          clear c10
          go_wp2
          go_round
          case rel => exact ⟨p + 1, l, true, by go_num, rfl, rfl, by omega, by omega, left_cother hlt H (u8_ne 10 c10')⟩
          case measure => simp [intOf]; omega
    · obtain rfl : p = doc.size := by omega
      obtain ⟨rfl, rfl⟩ := left_end H
      go_wp2
      go_ret2
      exact ⟨rfl, rfl⟩

set_option maxHeartbeats 1000000 in
/-- 'startsBlank' at a byte that opens no blank. -/
theorem starts_no (c : UInt8) (h1 : c ≠ 32) (h2 : c ≠ 9) (h3 : c ≠ 13) (h4 : c ≠ 10) (h5 : c ≠ 35) (w : World) :
    Calls Try.prog 11 #[.int .u8 (c.toNat : Int)] w fun e w' => e = .returned (.bool false) ∧ w' = w := by
  have ne : ∀ d : UInt8, c ≠ d → ((c.toNat : Int) == (d.toNat : Int)) = false := by
    intro d h
    rw [beq_eq_false_iff_ne]
    intro e
    exact h (UInt8.toNat_inj.1 (by omega))
  have e1 : ((c.toNat : Int) == 32) = false := ne 32 h1
  have e2 : ((c.toNat : Int) == 9) = false := ne 9 h2
  have e3 : ((c.toNat : Int) == 13) = false := ne 13 h3
  have e4 : ((c.toNat : Int) == 10) = false := ne 10 h4
  have e5 : ((c.toNat : Int) == 35) = false := ne 35 h5
  clear ne h1 h2 h3 h4 h5
  go_enter Try.func11, Try.ntmps11
  go_wp2
  go_ret
  exact ⟨rfl, rfl⟩

end Go.Proofs.Qxb6001040a
