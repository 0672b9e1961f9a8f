import Derived.Test.Qxb6001185aSmall
import Derived.Laws.IdiomStrings
namespace Go.Proofs.Qxb6001185a
open Go.RowKit
set_option linter.unusedVariables false

/-- '[]byte(s)': a slice of the string's bytes, in a new block. -/
theorem bytes_conv (w : World) (s : ByteArray) : ∃ (cap : Nat) (w1 : World), (convert 9 36 (.string s)).run Try.prog w = .ok (.slice (some ⟨w.heap.size, 0, none⟩) s.size cap) w1 ∧
    Below w.heap.size w w1 ∧ ∀ (k : Nat) (h : k < s.size), w1.cell? ⟨w.heap.size, k, none⟩ = some (.int .u8 (s[k].toNat : Int)) := by
  refine ⟨_, _, run_bytes_of_string (P := Try.prog) w 9 36 5 s Try.underlying9 Try.underlying36 Try.underlying5, ?_, ?_⟩
  · exact ((Below.refl _ _).drew).alloc (Nat.le_refl _) _
  · intro k h
    rw [show w.heap.size = w.drew.heap.size from rfl, World.cell?_alloc_mark, bytesRow_at s _ k h]
    rfl

def okN (c : Nat) : Prop := (65 ≤ c ∧ c ≤ 90) ∨ (97 ≤ c ∧ c ≤ 122) ∨ (48 ≤ c ∧ c ≤ 57) ∨ (95 ≤ c ∧ c ≤ 95) ∨ (46 ≤ c ∧ c ≤ 46) ∨ (45 ≤ c ∧ c ≤ 45)
theorem okB_yes {c : UInt8} (h : okN c.toNat) : okB c = true := by
  unfold okN at h; unfold okB
  simp only [Bool.or_eq_true, Bool.and_eq_true, decide_eq_true_eq, beq_iff_eq]
  omega
theorem okB_no {c : UInt8} (h : ¬ okN c.toNat) : okB c = false := by
  unfold okN at h; unfold okB
  simp only [Bool.or_eq_false_iff, Bool.and_eq_false_iff, decide_eq_false_iff_not, beq_eq_false_iff_ne]
  omega
theorem drop_at (s : ByteArray) (k : Nat) (h : k < s.size) : s.data.toList.drop k = s[k] :: s.data.toList.drop (k + 1) := by
  rw [List.drop_eq_getElem_cons (by simpa using h)]; rfl
theorem all_yes {s : ByteArray} {k : Nat} {b : Bool} (h : k < s.size) (H : (s.data.toList.drop k).all okB = b) (hc : okN s[k].toNat) : (s.data.toList.drop (k + 1)).all okB = b := by
  rw [drop_at s k h, List.all_cons, okB_yes hc] at H
  simpa using H
theorem all_no {s : ByteArray} {k : Nat} {b : Bool} (h : k < s.size) (H : (s.data.toList.drop k).all okB = b) (hc : ¬ okN s[k].toNat) : b = false := by
  rw [drop_at s k h, List.all_cons, okB_no hc] at H
  simpa using H.symm
theorem all_end {s : ByteArray} {b : Bool} (H : (s.data.toList.drop s.size).all okB = b) : b = true := by
  rw [List.drop_eq_nil_of_le (by simp)] at H
  simpa using H.symm

theorem name_cons (s : ByteArray) (h : 0 < s.size) : nameB s.data.toList = (s[0] != 46 && s[0] != 45 && s.data.toList.all okB) := by
  have hd0 := drop_at s 0 h
  rw [List.drop_zero] at hd0
  rw [hd0, nameB]
theorem u8_eq {c : UInt8} (d : UInt8) (h : ((c.toNat : Int) == (d.toNat : Int)) = true) : c = d := by
  have h1 : (c.toNat : Int) = d.toNat := by simpa using h
  exact UInt8.toNat_inj.1 (by omega)
theorem u8_ne {c : UInt8} (d : UInt8) (h : ((c.toNat : Int) == (d.toNat : Int)) = false) : c ≠ d := by
  intro e
  rw [e] at h
  simp at h

set_option maxHeartbeats 1000000 in
theorem name_any (s : ByteArray) (hs : s.size ≤ 1048576) (w : World) :
    Calls Try.prog 22 #[.string s] w fun e w' => e = .returned (.bool (nameB s.data.toList)) ∧ Below w.heap.size w w' := by
  by_cases hz : s.size = 0
  · have e : nameB s.data.toList = false := by
      have : s.data.toList = [] := List.eq_nil_of_length_eq_zero (by simpa using hz)
      rw [this]; rfl
    have he : s.toList.isEmpty = true := by
      rw [toList_eq]
      have : s.data.toList = [] := List.eq_nil_of_length_eq_zero (by simpa using hz)
      rw [this]; rfl
    rw [e]
    clear e
    go_enter Try.func22, Try.ntmps22
    go_wp2
    go_ret
    exact ⟨rfl, Below.refl _ _⟩
  · have he : s.toList.isEmpty = false := by
      rw [toList_eq]
      cases hl : s.data.toList with
      | nil => exact absurd (by simpa using congrArg List.length hl) hz
      | cons _ _ => rfl
    have hpos : 0 < s.size := by omega
    clear hz
    by_cases c46 : ((s[0].toNat : Int) == 46) = true
    · have e : nameB s.data.toList = false := by rw [name_cons s hpos, u8_eq 46 c46]; rfl
      rw [e]
      clear e
      go_enter Try.func22, Try.ntmps22
      go_wp2
      go_ret
      exact ⟨rfl, Below.refl _ _⟩
    · have c46' : ((s[0].toNat : Int) == 46) = false := by simpa using c46
      clear c46
      by_cases c45 : ((s[0].toNat : Int) == 45) = true
      · have e : nameB s.data.toList = false := by rw [name_cons s hpos, u8_eq 45 c45]; rfl
        rw [e]
        clear e
        go_enter Try.func22, Try.ntmps22
        go_wp2
        go_ret
        exact ⟨rfl, Below.refl _ _⟩
      · have c45' : ((s[0].toNat : Int) == 45) = false := by simpa using c45
        clear c45
        have hb : nameB s.data.toList = s.data.toList.all okB := by
          rw [name_cons s hpos, bne_iff_ne.2 (u8_ne 46 c46'), bne_iff_ne.2 (u8_ne 45 c45')]; rfl
        rw [hb]
        generalize hB : s.data.toList.all okB = b
        have HB : Hid ((s.data.toList.drop 0).all okB = b) := hB
        clear hB hb
        obtain ⟨cap, w1, hrun, hbel, hcell⟩ := bytes_conv w s
        have HC : Hid (∀ (k : Nat) (h : k < s.size), w1.cell? ⟨w.heap.size, k, none⟩ = some (.int .u8 (s[k].toNat : Int))) := hcell
        clear hcell
        go_enter Try.func22, Try.ntmps22
        go_wp2
        clear hrun
        go_loop [20] (fun i => ∃ k : Nat, i = .int .i64 k ∧ k ≤ s.size ∧ Hid ((s.data.toList.drop k).all okB = b)) (fun i => s.size - (intOf i).toNat)
        case atStart => exact ⟨0, rfl, Nat.zero_le _, HB⟩
        case round =>
          obtain ⟨k, rfl, hk, H⟩ := hrel
          by_cases hlt : k < s.size
          · have hcell := HC.out k hlt
            by_cases hok : okN s[k].toNat
            · have H2 : Hid ((s.data.toList.drop (k + 1)).all okB = b) := all_yes hlt H.out hok
              clear H HC HB
              generalize s[k].toNat = c at *
              rcases hok with h | h | h | h | h | h
              all_goals
                obtain ⟨ha, hb⟩ := h
                go_wp2
                go_round
                case rel => exact ⟨k + 1, by go_num, by omega, H2⟩
                case measure => simp [intOf]; omega
            · have hbf := all_no hlt H.out hok
              subst hbf
              clear H HC HB
              generalize s[k].toNat = c at *
              unfold okN at hok
              go_wp2
              all_goals
                go_ret
                exact ⟨rfl, hbel⟩
          · obtain rfl : k = s.size := by omega
            have hbt := all_end H.out
            subst hbt
            clear H HC HB
            go_wp2
            go_ret
            exact ⟨rfl, hbel⟩

set_option maxHeartbeats 1000000 in
theorem zzname_any (s : ByteArray) (hs : s.size ≤ 1048576) (w : World) :
    Calls Try.prog 10 #[.string s] w fun e w' => e = .returned (.bool (nameB s.data.toList)) ∧ Below w.heap.size w w' := by
  go_enter Try.func10, Try.ntmps10
  go_wp2_with fail
  refine (name_any s hs w).mono ?_
  rintro e w' ⟨rfl, hb⟩
  go_wp2
  go_ret
  exact ⟨rfl, hb⟩
end Go.Proofs.Qxb6001185a
