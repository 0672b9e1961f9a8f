import Derived.Test.Qxb6001539aSkip
namespace Go.Proofs.Qxb6001539a
open Go.RowKit
set_option linter.unusedVariables false

/-- Is the run of backslashes even? -/
def evB (run : Nat) : Bool := run % 2 == 0
theorem evB_succ (run : Nat) : evB (run + 1) = !evB run := by
  unfold evB
  rcases Nat.mod_two_eq_zero_or_one run with h | h
  · rw [h, show (run + 1) % 2 = 1 from by omega]; rfl
  · rw [h, show (run + 1) % 2 = 0 from by omega]; rfl
/-- Where the model stands: at i, inside the text; or behind its end. -/
def MRel (src Q : ByteArray) (q : UInt8) (basic : Bool) (R i run : Nat) : Prop := (i ≤ src.size ∧ At src Q q basic (evB run) R i) ∨ (src.size < i ∧ R = src.size)
theorem mrel_end {src Q : ByteArray} {q : UInt8} {basic : Bool} {R i run : Nat} (h : MRel src Q q basic R i run) (hi : ¬ i < src.size) : R = src.size := by
  rcases h with ⟨h1, h2⟩ | ⟨h1, h2⟩
  · obtain rfl : i = src.size := by omega
    exact (at_end h2).symm
  · exact h2
theorem mrel_in {src Q : ByteArray} {q : UInt8} {basic : Bool} {R i run : Nat} (h : MRel src Q q basic R i run) (hi : i < src.size) : At src Q q basic (evB run) R i := by
  rcases h with ⟨h1, h2⟩ | ⟨h1, h2⟩
  · exact h2
  · omega
theorem mrel_bs {src Q : ByteArray} {q : UInt8} {basic : Bool} {R i run : Nat} (hi : i < src.size) (h : At src Q q basic (evB run) R i) (hno : ((!basic || evB run) && Q.data.toList.isPrefixOf (src.data.toList.drop i)) = false) (hc : src[i] = 92) : MRel src Q q basic R (i + 1) (run + 1) := by
  have := at_next hi h hno
  rw [if_pos hc, ← evB_succ] at this
  exact Or.inl ⟨by omega, this⟩
theorem mrel_other {src Q : ByteArray} {q : UInt8} {basic : Bool} {R i run : Nat} (hi : i < src.size) (h : At src Q q basic (evB run) R i) (hno : ((!basic || evB run) && Q.data.toList.isPrefixOf (src.data.toList.drop i)) = false) (hc : src[i] ≠ 92) : MRel src Q q basic R (i + 1) 0 := by
  have := at_next hi h hno
  rw [if_neg hc] at this
  exact Or.inl ⟨by omega, this⟩
theorem mrel_start {src Q : ByteArray} {q : UInt8} {basic : Bool} {R p : Nat} (hp : p ≤ src.size) (h : At src Q q basic true R (p + min Q.size (src.size - p))) : MRel src Q q basic R (p + Q.size) 0 := by
  by_cases hl : p + Q.size ≤ src.size
  · rw [show p + min Q.size (src.size - p) = p + Q.size from by omega] at h
    exact Or.inl ⟨hl, h⟩
  · rw [show p + min Q.size (src.size - p) = src.size from by omega] at h
    exact Or.inr ⟨by omega, (at_end h).symm⟩

set_option maxHeartbeats 1000000 in
set_option maxRecDepth 100000 in
theorem model_plain (src Q : ByteArray) (hQ : Quote Q false) (q : UInt8) (hq : q = Q[0]'hQ.pos) (p0 R : Nat) (hs : src.size ≤ 1048576) (hp : p0 ≤ src.size) (HR : At src Q q false true R (p0 + min Q.size (src.size - p0))) (w : World) :
    Calls Try.prog 9 #[.string src, .int .i64 (p0 : Int), .string Q] w fun e w' => e = .returned (.int .i64 (R : Int)) ∧ ∃ n, w' = w.drewN n := by
  have hpos := hQ.pos
  have hb : ((Q[0].toNat : Int) == 34) = false := u8_no (by have := hQ.head; simpa using this)
  have hQ3 : Q.size ≤ 3 := by have := hQ.len; omega
  have HM : MRel src Q q false R (p0 + Q.size) 0 := mrel_start hp HR
  clear HR
  go_enter Try.func9, Try.ntmps9
  go_wp2
  go_loopw [9, 10] (fun r x wr => ∃ (run i n : Nat), r = .int .i64 run ∧ x = .int .i64 i ∧ run ≤ i ∧ i ≤ src.size + 3 ∧ wr = w.drewN n ∧ MRel src Q q false R i run) (fun _ x _ => src.size - (intOf x).toNat)
  case atStart => exact ⟨0, p0 + Q.size, 0, rfl, by go_num, by omega, by omega, rfl, HM⟩
  case round =>
    clear HM
    obtain ⟨run, i, n, rfl, rfl, hri, hi3, rfl, HM⟩ := hrel
    by_cases hlt : i < src.size
    · have H := mrel_in HM hlt
      clear HM
      have hI0 : (0 : Int) ≤ (i : Int) := by omega
      have hI1 : (i : Int) < (src.size : Int) := by omega
      go_wp2_with fail
      refine (hasAt_any src Q i (by omega) hs hpos hQ3 _).mono ?_
      rintro e w' ⟨rfl, n2, rfl⟩
      cases hpre : Q.data.toList.isPrefixOf (src.data.toList.drop i) with
      | true =>
        have H2 := at_close hlt H rfl hpre
        clear hpre H
        obtain ⟨hle2, H3⟩ := H2
        by_cases h3 : Q.size = 3
        · have b3 : ((Q.size : Int) == 3) = true := by rw [beq_iff_eq]; omega
          have HI : Hid ((i + 3) + ex q 2 (src.data.toList.drop (i + 3)) = R) := by
            rw [if_pos h3, h3] at H3; exact H3
          have hL : (i : Int) + (Q.size : Int) = ((i + 3 : Nat) : Int) := by omega
          have hle3 : i + 3 ≤ src.size := by omega
          have HL : Hid ((i : Int) + (Q.size : Int) = ((i + 3 : Nat) : Int)) := hL
          clear H3 h3 hL hle2
          go_wp2_with fail
          go_loopw [11, 12] (fun x y wr => ∃ (e k n : Nat), x = .int .i64 e ∧ y = .int .i64 k ∧ k ≤ 2 ∧ wr = w.drewN n ∧ e ≤ src.size ∧ Hid (e + ex q (2 - k) (src.data.toList.drop e) = R)) (fun _ y _ => 2 - (intOf y).toNat)
          case atStart => exact ⟨i + 3, 0, _, by rw [HL.out], rfl, by omega, rfl, hle3, HI⟩
          case round =>
            clear HI hle3
            obtain ⟨e, k, n3, rfl, rfl, hk, rfl, hed, HI⟩ := hrel
            by_cases hk2 : k < 2
            · have bk : decide ((k : Int) < 2) = true := by simp; omega
              by_cases hlt2 : e < src.size
              · have bp : decide ((e : Int) < (src.size : Int)) = true := by simp; omega
                have hJ0 : (0 : Int) ≤ (e : Int) := by omega
                have hJ1 : (e : Int) < (src.size : Int) := by omega
                cases hc : ((src[e].toNat : Int) == (Q[0].toNat : Int)) with
                | true =>
                  have HJ : Hid ((e + 1) + ex q (2 - (k + 1)) (src.data.toList.drop (e + 1)) = R) := by
                    show _ = _
                    rw [← HI.out, show 2 - k = (2 - (k + 1)) + 1 from by omega]
                    exact (ex_yes hlt2 (by rw [hq]; exact u8_eq _ hc)).symm
                  clear HI
                  go_wp2_with fail
                  go_quiet (fail)
                  go_wp2_with fail
                  go_roundw
                  case rel => exact ⟨e + 1, k + 1, _, by go_num, by go_num, by omega, rfl, by omega, HJ⟩
                  case measure => simp [intOf]; omega
                | false =>
                  have hR : e = R := by have := HI.out; rw [ex_no hlt2 (by rw [hq]; exact u8_ne _ hc)] at this; exact this
                  subst hR
                  clear HI
                  go_wp2_with fail
                  go_quiet (fail)
                  go_wp2
                  go_ret
                  exact ⟨rfl, _, World.drewN_drewN _ _ _⟩
              · have bp : decide ((e : Int) < (src.size : Int)) = false := by simp; omega
                obtain rfl : e = src.size := by omega
                have hR : src.size = R := by have := HI.out; rw [ex_out] at this; exact this
                subst hR
                clear HI
                go_wp2_with fail
                go_quiet (fail)
                go_wp2
                go_ret
                exact ⟨rfl, _, World.drewN_drewN _ _ _⟩
            · have bk : decide ((k : Int) < 2) = false := by simp; omega
              have hR : e = R := by have := HI.out; rw [show 2 - k = 0 from by omega, ex] at this; exact this
              subst hR
              clear HI
              go_wp2_with fail
              go_quiet (fail)
              go_wp2
              go_ret
              exact ⟨rfl, _, World.drewN_drewN _ _ _⟩
        · have b3 : ((Q.size : Int) == 3) = false := by rw [beq_eq_false_iff_ne]; omega
          have HI : Hid ((i : Int) + (Q.size : Int) = (R : Int)) := by
            rw [if_neg h3] at H3; show _ = _; omega
          clear H3 h3 hle2
          go_wp2
          go_ret
          exact ⟨by rw [← HI.out]; rfl, _, rfl⟩
      | false =>
        have hno : ((!false || evB run) && Q.data.toList.isPrefixOf (src.data.toList.drop i)) = false := by rw [hpre, Bool.and_false]
        cases hc : ((src[i].toNat : Int) == 92) with
        | true =>
          have H2 := mrel_bs hlt H hno (u8_eq 92 hc)
          clear hpre H hno
          go_wp2_with fail
          go_roundw
          case rel => exact ⟨run + 1, i + 1, _, by go_num, by go_num, by omega, by omega, rfl, H2⟩
          case measure => simp [intOf]; omega
        | false =>
          have H2 := mrel_other hlt H hno (u8_ne 92 hc)
          clear hpre H hno
          go_wp2_with fail
          go_roundw
          case rel => exact ⟨0, i + 1, _, by go_num, by go_num, by omega, by omega, rfl, H2⟩
          case measure => simp [intOf]; omega
    · have hR := mrel_end HM hlt
      subst hR
      clear HM
      go_wp2
      go_ret
      exact ⟨rfl, _, rfl⟩

set_option maxHeartbeats 1000000 in
set_option maxRecDepth 100000 in
theorem model_basic (src Q : ByteArray) (hQ : Quote Q true) (q : UInt8) (hq : q = Q[0]'hQ.pos) (p0 R : Nat) (hs : src.size ≤ 1048576) (hp : p0 ≤ src.size) (HR : At src Q q true true R (p0 + min Q.size (src.size - p0))) (w : World) :
    Calls Try.prog 9 #[.string src, .int .i64 (p0 : Int), .string Q] w fun e w' => e = .returned (.int .i64 (R : Int)) ∧ ∃ n, w' = w.drewN n := by
  have hpos := hQ.pos
  have hb : ((Q[0].toNat : Int) == 34) = true := u8_is (by have := hQ.head; simpa using this)
  have hQ3 : Q.size ≤ 3 := by have := hQ.len; omega
  have HM : MRel src Q q true R (p0 + Q.size) 0 := mrel_start hp HR
  clear HR
  go_enter Try.func9, Try.ntmps9
  go_wp2
  go_loopw [9, 10] (fun r x wr => ∃ (run i n : Nat), r = .int .i64 run ∧ x = .int .i64 i ∧ run ≤ i ∧ i ≤ src.size + 3 ∧ wr = w.drewN n ∧ MRel src Q q true R i run) (fun _ x _ => src.size - (intOf x).toNat)
  case atStart => exact ⟨0, p0 + Q.size, 0, rfl, by go_num, by omega, by omega, rfl, HM⟩
  case round =>
    clear HM
    obtain ⟨run, i, n, rfl, rfl, hri, hi3, rfl, HM⟩ := hrel
    by_cases hlt : i < src.size
    · have H := mrel_in HM hlt
      clear HM
      have hI0 : (0 : Int) ≤ (i : Int) := by omega
      have hI1 : (i : Int) < (src.size : Int) := by omega
      cases hev : (((run : Int) % 2) == 0) with
      | true =>
        have he : evB run = true := by unfold evB; rw [beq_iff_eq] at hev ⊢; omega
        go_wp2_with fail
        refine (hasAt_any src Q i (by omega) hs hpos hQ3 _).mono ?_
        rintro e w' ⟨rfl, n2, rfl⟩
        cases hpre : Q.data.toList.isPrefixOf (src.data.toList.drop i) with
        | true =>
          have H2 := at_close hlt H (by rw [he]; rfl) hpre
          clear hpre H
          obtain ⟨hle2, H3⟩ := H2
          by_cases h3 : Q.size = 3
          · have b3 : ((Q.size : Int) == 3) = true := by rw [beq_iff_eq]; omega
            have HI : Hid ((i + 3) + ex q 2 (src.data.toList.drop (i + 3)) = R) := by
              rw [if_pos h3, h3] at H3; exact H3
            have hL : (i : Int) + (Q.size : Int) = ((i + 3 : Nat) : Int) := by omega
            have hle3 : i + 3 ≤ src.size := by omega
            have HL : Hid ((i : Int) + (Q.size : Int) = ((i + 3 : Nat) : Int)) := hL
            clear H3 h3 hL hle2
            go_wp2_with fail
            go_loopw [11, 12] (fun x y wr => ∃ (e k n : Nat), x = .int .i64 e ∧ y = .int .i64 k ∧ k ≤ 2 ∧ wr = w.drewN n ∧ e ≤ src.size ∧ Hid (e + ex q (2 - k) (src.data.toList.drop e) = R)) (fun _ y _ => 2 - (intOf y).toNat)
            case atStart => exact ⟨i + 3, 0, _, by rw [HL.out], rfl, by omega, rfl, hle3, HI⟩
            case round =>
              clear HI hle3
              obtain ⟨e, k, n3, rfl, rfl, hk, rfl, hed, HI⟩ := hrel
              by_cases hk2 : k < 2
              · have bk : decide ((k : Int) < 2) = true := by simp; omega
                by_cases hlt2 : e < src.size
                · have bp : decide ((e : Int) < (src.size : Int)) = true := by simp; omega
                  have hJ0 : (0 : Int) ≤ (e : Int) := by omega
                  have hJ1 : (e : Int) < (src.size : Int) := by omega
                  cases hc : ((src[e].toNat : Int) == (Q[0].toNat : Int)) with
                  | true =>
                    have HJ : Hid ((e + 1) + ex q (2 - (k + 1)) (src.data.toList.drop (e + 1)) = R) := by
                      show _ = _
                      rw [← HI.out, show 2 - k = (2 - (k + 1)) + 1 from by omega]
                      exact (ex_yes hlt2 (by rw [hq]; exact u8_eq _ hc)).symm
                    clear HI
                    go_wp2_with fail
                    go_quiet (fail)
                    go_wp2_with fail
                    go_roundw
                    case rel => exact ⟨e + 1, k + 1, _, by go_num, by go_num, by omega, rfl, by omega, HJ⟩
                    case measure => simp [intOf]; omega
                  | false =>
                    have hR : e = R := by have := HI.out; rw [ex_no hlt2 (by rw [hq]; exact u8_ne _ hc)] at this; exact this
                    subst hR
                    clear HI
                    go_wp2_with fail
                    go_quiet (fail)
                    go_wp2
                    go_ret
                    exact ⟨rfl, _, World.drewN_drewN _ _ _⟩
                · have bp : decide ((e : Int) < (src.size : Int)) = false := by simp; omega
                  obtain rfl : e = src.size := by omega
                  have hR : src.size = R := by have := HI.out; rw [ex_out] at this; exact this
                  subst hR
                  clear HI
                  go_wp2_with fail
                  go_quiet (fail)
                  go_wp2
                  go_ret
                  exact ⟨rfl, _, World.drewN_drewN _ _ _⟩
              · have bk : decide ((k : Int) < 2) = false := by simp; omega
                have hR : e = R := by have := HI.out; rw [show 2 - k = 0 from by omega, ex] at this; exact this
                subst hR
                clear HI
                go_wp2_with fail
                go_quiet (fail)
                go_wp2
                go_ret
                exact ⟨rfl, _, World.drewN_drewN _ _ _⟩
          · have b3 : ((Q.size : Int) == 3) = false := by rw [beq_eq_false_iff_ne]; omega
            have HI : Hid ((i : Int) + (Q.size : Int) = (R : Int)) := by
              rw [if_neg h3] at H3; show _ = _; omega
            clear H3 h3 hle2
            go_wp2
            go_ret
            exact ⟨by rw [← HI.out]; rfl, _, rfl⟩
        | false =>
          have hno : ((!true || evB run) && Q.data.toList.isPrefixOf (src.data.toList.drop i)) = false := by rw [hpre, Bool.and_false]
          cases hc : ((src[i].toNat : Int) == 92) with
          | true =>
            have H2 := mrel_bs hlt H hno (u8_eq 92 hc)
            clear hpre H hno
            go_wp2_with fail
            go_roundw
            case rel => exact ⟨run + 1, i + 1, _, by go_num, by go_num, by omega, by omega, rfl, H2⟩
            case measure => simp [intOf]; omega
          | false =>
            have H2 := mrel_other hlt H hno (u8_ne 92 hc)
            clear hpre H hno
            go_wp2_with fail
            go_roundw
            case rel => exact ⟨0, i + 1, _, by go_num, by go_num, by omega, by omega, rfl, H2⟩
            case measure => simp [intOf]; omega
      | false =>
        have he : evB run = false := by unfold evB; rw [beq_eq_false_iff_ne] at hev ⊢; omega
        have hno : ((!true || evB run) && Q.data.toList.isPrefixOf (src.data.toList.drop i)) = false := by rw [he]; rfl
        cases hc : ((src[i].toNat : Int) == 92) with
        | true =>
          have H2 := mrel_bs hlt H hno (u8_eq 92 hc)
          clear H hno he
          go_wp2_with fail
          go_roundw
          case rel => exact ⟨run + 1, i + 1, _, by go_num, by go_num, by omega, by omega, rfl, H2⟩
          case measure => simp [intOf]; omega
        | false =>
          have H2 := mrel_other hlt H hno (u8_ne 92 hc)
          clear H hno he
          go_wp2_with fail
          go_roundw
          case rel => exact ⟨0, i + 1, _, by go_num, by go_num, by omega, by omega, rfl, H2⟩
          case measure => simp [intOf]; omega
    · have hR := mrel_end HM hlt
      subst hR
      clear HM
      go_wp2
      go_ret
      exact ⟨rfl, _, rfl⟩

end Go.Proofs.Qxb6001539a
