import Derived.Test.Qxb6001539aAdv
namespace Go.Proofs.Qxb6001539a
open Go.RowKit
set_option linter.unusedVariables false
attribute [local go_sem] setCell_drewN

def posOf (b : Nat) (w : World) : Nat := match w.cell? ⟨b, 1, none⟩ with | some (.int _ n) => n.toNat | _ => 0
theorem posOf_at (src : ByteArray) (w : World) (p l : Int) (n : Nat) : posOf w.heap.size ((w.alloc (.cells #[.string src, .int .i64 p, .int .i64 l] 30)).drewN n) = p.toNat := by
  simp [posOf]

/-- The scanner stands at p, and the string ends at R. -/
def Rel (src Q : ByteArray) (q : UInt8) (basic : Bool) (R : Nat) (w wr : World) : Prop :=
  ∃ (p : Nat) (l : Int) (m : Nat), wr = (w.alloc (.cells #[.string src, .int .i64 (p : Int), .int .i64 l] 30)).drewN m ∧ p ≤ src.size ∧ At src Q q basic true R p
theorem rel_mk {src Q : ByteArray} {q : UInt8} {basic : Bool} {R : Nat} {w : World} {p p0 : Nat} {l l0 : Int} {n m : Nat} (hp : p ≤ src.size) (h : At src Q q basic true R p) (hlt : p0 < p) :
    Rel src Q q basic R w ((w.alloc (.cells #[.string src, .int .i64 (p : Int), .int .i64 l] 30)).drewN n) ∧
      src.size - posOf w.heap.size ((w.alloc (.cells #[.string src, .int .i64 (p : Int), .int .i64 l] 30)).drewN n) <
      src.size - posOf w.heap.size ((w.alloc (.cells #[.string src, .int .i64 (p0 : Int), .int .i64 l0] 30)).drewN m) := by
  refine ⟨⟨p, l, n, rfl, hp, h⟩, ?_⟩
  rw [posOf_at, posOf_at]
  omega

theorem inner_yes {src Q : ByteArray} {q : UInt8} {k p R : Nat} (h3 : Q.size = 3) (hk : k < 2) (hp : p < src.size) (hc : src[p] = q) (h : p + (if Q.size = 3 then ex q (2 - k) (src.data.toList.drop p) else 0) = R) :
    (p + 1) + (if Q.size = 3 then ex q (2 - (k + 1)) (src.data.toList.drop (p + 1)) else 0) = R := by
  rw [if_pos h3] at h ⊢
  rw [← h, show 2 - k = (2 - (k + 1)) + 1 from by omega, ex_yes hp hc]
theorem inner_no {src Q : ByteArray} {q : UInt8} {k p R : Nat} (h3 : Q.size = 3) (hp : p < src.size) (hc : src[p] ≠ q) (h : p + (if Q.size = 3 then ex q (2 - k) (src.data.toList.drop p) else 0) = R) : p = R := by
  rw [if_pos h3, ex_no hp hc] at h; exact h
theorem inner_out {src Q : ByteArray} {q : UInt8} {k R : Nat} (h : src.size + (if Q.size = 3 then ex q (2 - k) (src.data.toList.drop src.size) else 0) = R) : src.size = R := by
  rw [ex_out] at h; simpa using h
theorem inner_two {src Q : ByteArray} {q : UInt8} {k p R : Nat} (hk : k = 2) (h : p + (if Q.size = 3 then ex q (2 - k) (src.data.toList.drop p) else 0) = R) : p = R := by
  rw [hk, Nat.sub_self, ex] at h; simpa using h
theorem inner_one {src Q : ByteArray} {q : UInt8} {k p R : Nat} (h3 : ¬ Q.size = 3) (h : p + (if Q.size = 3 then ex q (2 - k) (src.data.toList.drop p) else 0) = R) : p = R := by
  rw [if_neg h3] at h; exact h

set_option maxHeartbeats 1000000 in
set_option maxRecDepth 100000 in
theorem skip_plain (src Q : ByteArray) (hQ : Quote Q false) (q : UInt8) (hq : q = Q[0]'hQ.pos) (p0 : Nat) (l0 : Int) (m0 R : Nat) (hs : src.size ≤ 1048576) (hp : p0 ≤ src.size) (HR : At src Q q false true R (p0 + min Q.size (src.size - p0))) (w : World) :
    Calls Try.prog 13 #[.pointer (some ⟨w.heap.size, 0, none⟩), .string Q] ((w.alloc (.cells #[.string src, .int .i64 (p0 : Int), .int .i64 l0] 30)).drewN m0) fun e w' =>
      e = .returned (.tuple #[]) ∧ ∃ (l' : Int) (m' : Nat), w' = (w.alloc (.cells #[.string src, .int .i64 (R : Int), .int .i64 l'] 30)).drewN m' := by
  have hpos := hQ.pos
  have hb : ((Q[0].toNat : Int) == 34) = false := u8_no (by have := hQ.head; simpa using this)
  have hQ3 : Q.size ≤ 3 := by have := hQ.len; omega
  have H : Hid (At src Q q false true R (p0 + min Q.size (src.size - p0))) := HR
  clear HR
  go_enter Try.func13, Try.ntmps13
  go_wp2_with fail
  refine (adv_at src p0 Q.size _ rfl l0 hs hp hQ3 w m0).mono ?_
  rintro e w' ⟨rfl, l1, m1, rfl⟩
  have hp1 : p0 + min Q.size (src.size - p0) ≤ src.size := by omega
  generalize p0 + min Q.size (src.size - p0) = p1 at *
  clear hp
  go_wp2_with fail
  go_loopw [5] (fun _ wr => Rel src Q q false R w wr) (fun _ wr => src.size - posOf w.heap.size wr)
  case atStart => exact ⟨p1, l1, m1, rfl, hp1, H.out⟩
  case round =>
    clear H hp1
    obtain ⟨p, l, m, rfl, hpd, H⟩ := hrel
    by_cases hlt : p < src.size
    · have hI0 : (0 : Int) ≤ (p : Int) := by omega
      have hI1 : (p : Int) < (src.size : Int) := by omega
      have hI2 : (p : Int) ≤ (src.size : Int) := by omega
      go_wp2_with fail
      go_quiet (fail)
      go_wp2_with fail
      go_quiet (fail)
      go_wp2_with fail
      go_quiet ((go_at_call 16; exact (prefix_any _ _ (by simp only [ByteArray.size_extract]; omega) (by omega) _).mono (fun e w' h => ⟨h.1, _, h.2⟩)))
      rw [Lib.extract_to_end src p]
      cases hpre : Q.data.toList.isPrefixOf (src.data.toList.drop p) with
      | false =>
        have H2 := at_one hlt H (by simp) hpre
        clear hpre H
        go_wp2_with fail
        refine (adv_at src p 1 _ rfl _ hs hpd (by omega) w _).mono ?_
        rintro e w' ⟨rfl, l2, m2, rfl⟩
        have hlt2 : p < p + min 1 (src.size - p) := by omega
        have hle2 : p + min 1 (src.size - p) ≤ src.size := by omega
        generalize p + min 1 (src.size - p) = p2 at *
        go_wp2_with fail
        exact rel_mk hle2 H2 hlt2
      | true =>
        have H2 := at_close hlt H rfl hpre
        clear hpre H
        go_wp2_with fail
        refine (adv_at src p Q.size _ rfl _ hs hpd hQ3 w _).mono ?_
        rintro e w' ⟨rfl, l2, m2, rfl⟩
        obtain ⟨hle2, H3⟩ := H2
        rw [show p + min Q.size (src.size - p) = p + Q.size from by omega]
        generalize p + Q.size = p2 at *
        go_wp2_with fail
        have HI : Hid (p2 + (if Q.size = 3 then ex q 2 (src.data.toList.drop p2) else 0) = R) := H3
        clear H3
        go_loopw [5] (fun x wr => ∃ (k p : Nat) (l : Int) (m : Nat), x = .int .i64 k ∧ k ≤ 2 ∧ wr = (w.alloc (.cells #[.string src, .int .i64 (p : Int), .int .i64 l] 30)).drewN m ∧ p ≤ src.size ∧ Hid (p + (if Q.size = 3 then ex q (2 - k) (src.data.toList.drop p) else 0) = R)) (fun x _ => 2 - (intOf x).toNat)
        case atStart => exact ⟨0, p2, l2, m2, rfl, by omega, rfl, hle2, HI⟩
        case round =>
          clear HI hle2
          obtain ⟨k, p3, l3, m3, rfl, hk, rfl, hpd, HI⟩ := hrel
          by_cases h3 : Q.size = 3
          · have b3 : ((Q.size : Int) == 3) = true := by rw [beq_iff_eq]; omega
            have H3 : Hid (Q.size = 3) := h3
            clear h3
            by_cases hk2 : k < 2
            · have bk : decide ((k : Int) < 2) = true := by simp; omega
              by_cases hlt : p3 < src.size
              · have bp : decide ((p3 : Int) < (src.size : Int)) = true := by simp; omega
                have hI0 : (0 : Int) ≤ (p3 : Int) := by omega
                have hI1 : (p3 : Int) < (src.size : Int) := by omega
                cases hc : ((src[p3].toNat : Int) == (Q[0].toNat : Int)) with
                | true =>
                  have HJ : Hid ((p3 + 1) + (if Q.size = 3 then ex q (2 - (k + 1)) (src.data.toList.drop (p3 + 1)) else 0) = R) := inner_yes H3.out hk2 hlt (by rw [hq]; exact u8_eq _ hc) HI.out
                  clear HI
                  go_wp2_with fail
                  go_quiet (fail)
                  go_wp2_with fail
                  go_roundw
                  case rel => exact ⟨k + 1, p3 + 1, l3, _, by go_num, by omega, at_same (by omega), by omega, HJ⟩
                  case measure => simp [intOf]; omega
                | false =>
                  have hR := inner_no H3.out hlt (by rw [hq]; exact u8_ne _ hc) HI.out
                  subst hR
                  clear HI
                  go_wp2_with fail
                  go_quiet (fail)
                  go_wp2
                  refine bodyPost_ret (results_none rfl _ _ _) rfl ?_
                  exact ⟨rfl, _, _, World.drewN_drewN _ _ _⟩
              · have bp : decide ((p3 : Int) < (src.size : Int)) = false := by simp; omega
                obtain rfl : p3 = src.size := by omega
                have hR := inner_out HI.out
                subst hR
                clear HI
                go_wp2_with fail
                go_quiet (fail)
                go_wp2
                refine bodyPost_ret (results_none rfl _ _ _) rfl ?_
                exact ⟨rfl, _, _, World.drewN_drewN _ _ _⟩
            · have bk : decide ((k : Int) < 2) = false := by simp; omega
              have hR := inner_two (by omega : k = 2) HI.out
              subst hR
              clear HI
              go_wp2_with fail
              go_quiet (fail)
              go_wp2
              refine bodyPost_ret (results_none rfl _ _ _) rfl ?_
              exact ⟨rfl, _, _, World.drewN_drewN _ _ _⟩
          · have b3 : ((Q.size : Int) == 3) = false := by rw [beq_eq_false_iff_ne]; omega
            have hR := inner_one h3 HI.out
            subst hR
            clear HI h3
            go_wp2_with fail
            go_quiet (fail)
            go_wp2
            refine bodyPost_ret (results_none rfl _ _ _) rfl ?_
            exact ⟨rfl, _, _, World.drewN_drewN _ _ _⟩
    · obtain rfl : p = src.size := by omega
      have hR := at_end H
      subst hR
      clear H
      go_wp2_with fail
      go_quiet (fail)
      go_wp2
      go_end0
      exact ⟨rfl, _, _, World.drewN_drewN _ _ _⟩
set_option maxHeartbeats 1000000 in
set_option maxRecDepth 100000 in
theorem skip_basic (src Q : ByteArray) (hQ : Quote Q true) (q : UInt8) (hq : q = Q[0]'hQ.pos) (p0 : Nat) (l0 : Int) (m0 R : Nat) (hs : src.size ≤ 1048576) (hp : p0 ≤ src.size) (HR : At src Q q true true R (p0 + min Q.size (src.size - p0))) (w : World) :
    Calls Try.prog 13 #[.pointer (some ⟨w.heap.size, 0, none⟩), .string Q] ((w.alloc (.cells #[.string src, .int .i64 (p0 : Int), .int .i64 l0] 30)).drewN m0) fun e w' =>
      e = .returned (.tuple #[]) ∧ ∃ (l' : Int) (m' : Nat), w' = (w.alloc (.cells #[.string src, .int .i64 (R : Int), .int .i64 l'] 30)).drewN m' := by
  have hpos := hQ.pos
  have hb : ((Q[0].toNat : Int) == 34) = true := u8_is (by have := hQ.head; simpa using this)
  have hQ3 : Q.size ≤ 3 := by have := hQ.len; omega
  have H : Hid (At src Q q true true R (p0 + min Q.size (src.size - p0))) := HR
  clear HR
  go_enter Try.func13, Try.ntmps13
  go_wp2_with fail
  refine (adv_at src p0 Q.size _ rfl l0 hs hp hQ3 w m0).mono ?_
  rintro e w' ⟨rfl, l1, m1, rfl⟩
  have hp1 : p0 + min Q.size (src.size - p0) ≤ src.size := by omega
  generalize p0 + min Q.size (src.size - p0) = p1 at *
  clear hp
  go_wp2_with fail
  go_loopw [5] (fun _ wr => Rel src Q q true R w wr) (fun _ wr => src.size - posOf w.heap.size wr)
  case atStart => exact ⟨p1, l1, m1, rfl, hp1, H.out⟩
  case round =>
    clear H hp1
    obtain ⟨p, l, m, rfl, hpd, H⟩ := hrel
    by_cases hlt : p < src.size
    · have hI0 : (0 : Int) ≤ (p : Int) := by omega
      have hI1 : (p : Int) < (src.size : Int) := by omega
      have hI2 : (p : Int) ≤ (src.size : Int) := by omega
      cases h92 : ((src[p].toNat : Int) == 92) with
      | true =>
        have H2 := at_esc hQ hlt H (u8_eq 92 h92)
        clear H
        go_wp2_with fail
        go_quiet (fail)
        go_wp2_with fail
        go_quiet (fail)
        go_wp2_with fail
        refine (adv_at src p 2 _ rfl _ hs hpd (by omega) w _).mono ?_
        rintro e w' ⟨rfl, l2, m2, rfl⟩
        have hlt2 : p < p + min 2 (src.size - p) := by omega
        have hle2 : p + min 2 (src.size - p) ≤ src.size := by omega
        generalize p + min 2 (src.size - p) = p2 at *
        go_wp2_with fail
        exact rel_mk hle2 H2 hlt2
      | false =>
        go_wp2_with fail
        go_quiet (fail)
        go_wp2_with fail
        go_quiet (fail)
        go_wp2_with fail
        go_quiet ((go_at_call 16; exact (prefix_any _ _ (by simp only [ByteArray.size_extract]; omega) (by omega) _).mono (fun e w' h => ⟨h.1, _, h.2⟩)))
        rw [Lib.extract_to_end src p]
        cases hpre : Q.data.toList.isPrefixOf (src.data.toList.drop p) with
        | false =>
          have H2 := at_one hlt H (fun _ => u8_ne 92 h92) hpre
          clear hpre H
          go_wp2_with fail
          refine (adv_at src p 1 _ rfl _ hs hpd (by omega) w _).mono ?_
          rintro e w' ⟨rfl, l2, m2, rfl⟩
          have hlt2 : p < p + min 1 (src.size - p) := by omega
          have hle2 : p + min 1 (src.size - p) ≤ src.size := by omega
          generalize p + min 1 (src.size - p) = p2 at *
          go_wp2_with fail
          exact rel_mk hle2 H2 hlt2
        | true =>
          have H2 := at_close hlt H rfl hpre
          clear hpre H
          go_wp2_with fail
          refine (adv_at src p Q.size _ rfl _ hs hpd hQ3 w _).mono ?_
          rintro e w' ⟨rfl, l2, m2, rfl⟩
          obtain ⟨hle2, H3⟩ := H2
          rw [show p + min Q.size (src.size - p) = p + Q.size from by omega]
          generalize p + Q.size = p2 at *
          go_wp2_with fail
          have HI : Hid (p2 + (if Q.size = 3 then ex q 2 (src.data.toList.drop p2) else 0) = R) := H3
          clear H3
          go_loopw [5] (fun x wr => ∃ (k p : Nat) (l : Int) (m : Nat), x = .int .i64 k ∧ k ≤ 2 ∧ wr = (w.alloc (.cells #[.string src, .int .i64 (p : Int), .int .i64 l] 30)).drewN m ∧ p ≤ src.size ∧ Hid (p + (if Q.size = 3 then ex q (2 - k) (src.data.toList.drop p) else 0) = R)) (fun x _ => 2 - (intOf x).toNat)
          case atStart => exact ⟨0, p2, l2, m2, rfl, by omega, rfl, hle2, HI⟩
          case round =>
            clear HI hle2
            obtain ⟨k, p3, l3, m3, rfl, hk, rfl, hpd, HI⟩ := hrel
            by_cases h3 : Q.size = 3
            · have b3 : ((Q.size : Int) == 3) = true := by rw [beq_iff_eq]; omega
              have H3 : Hid (Q.size = 3) := h3
              clear h3
              by_cases hk2 : k < 2
              · have bk : decide ((k : Int) < 2) = true := by simp; omega
                by_cases hlt : p3 < src.size
                · have bp : decide ((p3 : Int) < (src.size : Int)) = true := by simp; omega
                  have hI0 : (0 : Int) ≤ (p3 : Int) := by omega
                  have hI1 : (p3 : Int) < (src.size : Int) := by omega
                  cases hc : ((src[p3].toNat : Int) == (Q[0].toNat : Int)) with
                  | true =>
                    have HJ : Hid ((p3 + 1) + (if Q.size = 3 then ex q (2 - (k + 1)) (src.data.toList.drop (p3 + 1)) else 0) = R) := inner_yes H3.out hk2 hlt (by rw [hq]; exact u8_eq _ hc) HI.out
                    clear HI
                    go_wp2_with fail
                    go_quiet (fail)
                    go_wp2_with fail
                    go_roundw
                    case rel => exact ⟨k + 1, p3 + 1, l3, _, by go_num, by omega, at_same (by omega), by omega, HJ⟩
                    case measure => simp [intOf]; omega
                  | false =>
                    have hR := inner_no H3.out hlt (by rw [hq]; exact u8_ne _ hc) HI.out
                    subst hR
                    clear HI
                    go_wp2_with fail
                    go_quiet (fail)
                    go_wp2
                    refine bodyPost_ret (results_none rfl _ _ _) rfl ?_
                    exact ⟨rfl, _, _, World.drewN_drewN _ _ _⟩
                · have bp : decide ((p3 : Int) < (src.size : Int)) = false := by simp; omega
                  obtain rfl : p3 = src.size := by omega
                  have hR := inner_out HI.out
                  subst hR
                  clear HI
                  go_wp2_with fail
                  go_quiet (fail)
                  go_wp2
                  refine bodyPost_ret (results_none rfl _ _ _) rfl ?_
                  exact ⟨rfl, _, _, World.drewN_drewN _ _ _⟩
              · have bk : decide ((k : Int) < 2) = false := by simp; omega
                have hR := inner_two (by omega : k = 2) HI.out
                subst hR
                clear HI
                go_wp2_with fail
                go_quiet (fail)
                go_wp2
                refine bodyPost_ret (results_none rfl _ _ _) rfl ?_
                exact ⟨rfl, _, _, World.drewN_drewN _ _ _⟩
            · have b3 : ((Q.size : Int) == 3) = false := by rw [beq_eq_false_iff_ne]; omega
              have hR := inner_one h3 HI.out
              subst hR
              clear HI h3
              go_wp2_with fail
              go_quiet (fail)
              go_wp2
              refine bodyPost_ret (results_none rfl _ _ _) rfl ?_
              exact ⟨rfl, _, _, World.drewN_drewN _ _ _⟩
    · obtain rfl : p = src.size := by omega
      have hR := at_end H
      subst hR
      clear H
      go_wp2_with fail
      go_quiet (fail)
      go_wp2
      go_end0
      exact ⟨rfl, _, _, World.drewN_drewN _ _ _⟩
end Go.Proofs.Qxb6001539a
