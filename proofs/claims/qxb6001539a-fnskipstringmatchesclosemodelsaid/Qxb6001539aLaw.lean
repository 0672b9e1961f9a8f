import Derived.Test.Qxb6001539aModel
namespace Go.Proofs.Qxb6001539a
open Go.RowKit
set_option linter.unusedVariables false

theorem skip_q (src Q : ByteArray) (basic : Bool) (hQ : Quote Q basic) (q : UInt8) (hq : q = Q[0]'hQ.pos) (p0 : Nat) (l0 : Int) (R : Nat) (hs : src.size ≤ 1048576) (hp : p0 ≤ src.size) (HR : At src Q q basic true R (p0 + min Q.size (src.size - p0))) (w : World) :
    Calls Try.prog 13 #[.pointer (some ⟨w.heap.size, 0, none⟩), .string Q] (w.alloc (.cells #[.string src, .int .i64 (p0 : Int), .int .i64 l0] 30)) fun e w' =>
      e = .returned (.tuple #[]) ∧ ∃ (l' : Int) (m' : Nat), w' = (w.alloc (.cells #[.string src, .int .i64 (R : Int), .int .i64 l'] 30)).drewN m' := by
  rw [← World.drewN_zero (w.alloc (.cells #[.string src, .int .i64 (p0 : Int), .int .i64 l0] 30))]
  cases basic with
  | true => exact skip_basic src Q hQ q hq p0 l0 0 R hs hp HR w
  | false => exact skip_plain src Q hQ q hq p0 l0 0 R hs hp HR w
theorem model_q (src Q : ByteArray) (basic : Bool) (hQ : Quote Q basic) (q : UInt8) (hq : q = Q[0]'hQ.pos) (p0 R : Nat) (hs : src.size ≤ 1048576) (hp : p0 ≤ src.size) (HR : At src Q q basic true R (p0 + min Q.size (src.size - p0))) (w : World) :
    Calls Try.prog 9 #[.string src, .int .i64 (p0 : Int), .string Q] w fun e w' => e = .returned (.int .i64 (R : Int)) ∧ ∃ n, w' = w.drewN n := by
  cases basic with
  | true => exact model_basic src Q hQ q hq p0 R hs hp HR w
  | false => exact model_plain src Q hQ q hq p0 R hs hp HR w

set_option maxHeartbeats 1000000 in
theorem zz_any (src Q : ByteArray) (basic : Bool) (hQ : Quote Q basic) (q : UInt8) (hq : q = Q[0]'hQ.pos) (p0 : Nat) (l0 : Int) (R : Nat) (hs : src.size ≤ 1048576) (hp : p0 ≤ src.size) (HR : At src Q q basic true R (p0 + min Q.size (src.size - p0))) (w : World) :
    Calls Try.prog 8 #[.string src, .int .i64 (p0 : Int), .int .i64 l0, .string Q] w fun e w' => (∃ l' : Int, e = .returned (.tuple #[.int .i64 (R : Int), .int .i64 l'])) ∧ Below w.heap.size w w' := by
  have H := skip_q src Q basic hQ q hq p0 l0 R hs hp HR w
  have HH : Hid (Calls Try.prog 13 #[.pointer (some ⟨w.heap.size, 0, none⟩), .string Q] (w.alloc (.cells #[.string src, .int .i64 (p0 : Int), .int .i64 l0] 30)) fun e w' =>
      e = .returned (.tuple #[]) ∧ ∃ (l' : Int) (m' : Nat), w' = (w.alloc (.cells #[.string src, .int .i64 (R : Int), .int .i64 l'] 30)).drewN m') := H
  clear H HR hq
  go_enter Try.func8, Try.ntmps8
  go_wp2_with fail
  refine HH.out.mono ?_
  rintro e w' ⟨rfl, l1, m1, rfl⟩
  clear HH
  go_wp2
  go_quiet (fail)
  go_wp2
  go_ret2
  exact ⟨⟨_, rfl⟩, below_drewN (below_drewN ((Below.refl _ _).alloc (Nat.le_refl _) _) _) _⟩

theorem toList_eq (s : ByteArray) : s.toList = s.data.toList := Lib.toList_data s
/-- The four quotes. -/
def four (Q : ByteArray) : Prop := Q.toList = [34] ∨ Q.toList = [39] ∨ Q.toList = [34, 34, 34] ∨ Q.toList = [39, 39, 39]
theorem quote_of {Q : ByteArray} {c : UInt8} {l : List UInt8} (h : Q.toList = c :: l) (hl : l.length = 0 ∨ l.length = 2) : Quote Q (c == 34) := by
  rw [toList_eq] at h
  have hlen : Q.size = l.length + 1 := by
    have := congrArg List.length h
    simpa using this
  have hpos : 0 < Q.size := by omega
  have hd := drop_at Q 0 hpos
  rw [List.drop_zero, h] at hd
  injection hd with e1 e2
  exact ⟨by omega, hpos, by rw [← e1]⟩
theorem four_quote {Q : ByteArray} (h : four Q) : ∃ basic, Quote Q basic := by
  rcases h with h | h | h | h
  · exact ⟨_, quote_of h (by simp)⟩
  · exact ⟨_, quote_of h (by simp)⟩
  · exact ⟨_, quote_of h (by simp)⟩
  · exact ⟨_, quote_of h (by simp)⟩

set_option maxHeartbeats 400000 in
theorem tq_yes (Q : ByteArray) (h : four Q) (w : World) : Calls Try.prog 7 #[.string Q] w fun e w' => e = .returned (.bool true) ∧ w' = w := by
  rcases h with h | h | h | h
  · have b1 : (Q.toList == [34]) = true := by rw [h]; rfl
    clear h
    go_enter Try.func7, Try.ntmps7
    go_wp2
    go_ret
    exact ⟨rfl, rfl⟩
  · have b1 : (Q.toList == [34]) = false := by rw [h]; rfl
    have b2 : (Q.toList == [39]) = true := by rw [h]; rfl
    clear h
    go_enter Try.func7, Try.ntmps7
    go_wp2
    go_ret
    exact ⟨rfl, rfl⟩
  · have b1 : (Q.toList == [34]) = false := by rw [h]; rfl
    have b2 : (Q.toList == [39]) = false := by rw [h]; rfl
    have b3 : (Q.toList == [34, 34, 34]) = true := by rw [h]; rfl
    clear h
    go_enter Try.func7, Try.ntmps7
    go_wp2
    go_ret
    exact ⟨rfl, rfl⟩
  · have b1 : (Q.toList == [34]) = false := by rw [h]; rfl
    have b2 : (Q.toList == [39]) = false := by rw [h]; rfl
    have b3 : (Q.toList == [34, 34, 34]) = false := by rw [h]; rfl
    have b4 : (Q.toList == [39, 39, 39]) = true := by rw [h]; rfl
    clear h
    go_enter Try.func7, Try.ntmps7
    go_wp2
    go_ret
    exact ⟨rfl, rfl⟩
set_option maxHeartbeats 400000 in
theorem tq_no (Q : ByteArray) (h : ¬ four Q) (w : World) : Calls Try.prog 7 #[.string Q] w fun e w' => e = .returned (.bool false) ∧ w' = w := by
  unfold four at h
  have b1 : (Q.toList == [34]) = false := by rw [beq_eq_false_iff_ne]; exact fun e => h (Or.inl e)
  have b2 : (Q.toList == [39]) = false := by rw [beq_eq_false_iff_ne]; exact fun e => h (Or.inr (Or.inl e))
  have b3 : (Q.toList == [34, 34, 34]) = false := by rw [beq_eq_false_iff_ne]; exact fun e => h (Or.inr (Or.inr (Or.inl e)))
  have b4 : (Q.toList == [39, 39, 39]) = false := by rw [beq_eq_false_iff_ne]; exact fun e => h (Or.inr (Or.inr (Or.inr e)))
  clear h
  go_enter Try.func7, Try.ntmps7
  go_wp2
  go_ret
  exact ⟨rfl, rfl⟩

set_option maxHeartbeats 1000000 in
theorem law_main (src Q : ByteArray) (p0 : Nat) (l0 : Int) (hs : src.size ≤ 1048576) (hsum : Q.size + src.size ≤ 1048576) (hp : p0 ≤ src.size) (h4 : four Q) (w : World) :
    Calls Try.prog 3 #[.string src, .int .i64 (p0 : Int), .int .i64 l0, .string Q] w fun e w' => e = .returned (.bool true) ∧ Below w.heap.size w w' := by
  obtain ⟨basic, hQ⟩ := four_quote h4
  have HZ := fun W => zz_any src Q basic hQ _ rfl p0 l0 _ hs hp rfl W
  have HM := fun W => model_q src Q basic hQ _ rfl p0 _ hs hp rfl W
  generalize p0 + min Q.size (src.size - p0) + md basic Q.data.toList (Q[0]'hQ.pos) (src.data.toList.drop (p0 + min Q.size (src.size - p0))) true = R at HZ HM
  have HZ' : Hid (∀ W, Calls Try.prog 8 #[.string src, .int .i64 (p0 : Int), .int .i64 l0, .string Q] W fun e w' => (∃ l' : Int, e = .returned (.tuple #[.int .i64 (R : Int), .int .i64 l'])) ∧ Below W.heap.size W w') := HZ
  have HM' : Hid (∀ W, Calls Try.prog 9 #[.string src, .int .i64 (p0 : Int), .string Q] W fun e w' => e = .returned (.int .i64 (R : Int)) ∧ ∃ n, w' = W.drewN n) := HM
  have H4 : Hid (four Q) := h4
  clear HZ HM hQ h4
  go_enter Try.func3, Try.ntmps3
  go_wp2_with (go_at_call 6; go_in)
  refine (tq_yes Q H4.out _).mono ?_
  rintro e w1 ⟨rfl, rfl⟩
  go_wp2_with fail
  refine (HZ'.out _).mono ?_
  rintro e w2 ⟨⟨l', rfl⟩, hb⟩
  clear HZ' H4
  go_wp2_with fail
  refine (HM'.out _).mono ?_
  rintro e w3 ⟨rfl, n, rfl⟩
  clear HM'
  go_wp2
  go_ret
  exact ⟨rfl, below_drewN hb _⟩
end Go.Proofs.Qxb6001539a
